/-
  Types, read from a flatbuffer: what the accessors hand to FromBuf. No conditions.
-/
import Derived.Test.YtcbcdgifakcooaaGreatDoorTyD
import Derived.Test.YtcbcdgifakcooaaGreatDoorRoot
namespace Go.Proofs.YtcbcdgifakcooaaGreatDoor
open Go.RowKit
set_option linter.unusedVariables false
set_option linter.unusedSimpArgs false

/-- What all nodes have, or none, as the accessor hands it back. -/
def BasePtr (w : World) (rb cap : Nat) (B : By) (pv : Value) : Prop := pv = .pointer none ∨ ∃ k q d', pv = .pointer (some ⟨k, 0, none⟩) ∧ TabIn w k 0 rb cap B q ∧ BaseAt B q d'

theorem base_both (k rb cap : Nat) (B : By) (pv : Value) (w : World) (hp : BasePtr w rb cap B pv) (hn : w.cell? ⟨k, 0, none⟩ = some (.pointer none)) (hf : w.frozen? ⟨k, 0, none⟩ = false) :
    Calls Tryz.prog 51 #[.pointer (some ⟨k, 0, none⟩), pv] w fun e w' => e = .returned (.tuple #[]) ∧ Below w.heap.size w w' := by
  rcases hp with rfl | ⟨k1, q, d', rfl, hT, hb⟩
  · refine (base_none k 0 w).mono ?_
    rintro e w' ⟨rfl, rfl⟩
    exact ⟨rfl, Below.refl _ _⟩
  · exact base_some k 0 k1 rb cap q d' B hb w hT hn hf

/-- An identifier's table, or none. -/
def IdPtr (w : World) (rb cap : Nat) (B : By) (x : Nd) (pv : Value) : Prop := (x.kind = 0 ∧ pv = .pointer none) ∨ (x.kind = 33 ∧ ∃ k q, pv = .pointer (some ⟨k, 0, none⟩) ∧ TabIn w k 0 rb cap B q ∧ IdentAt B q x.text)

theorem ident_none (w : World) :
    Calls Tryz.prog 72 #[.agg #[.pointer none, .slice none 0 0, .slice none 0 0, .string ⟨#[]⟩], .pointer none] w fun e w' => e = .returned (.pointer none) ∧ Below w.heap.size w w' := by
  go_enter Tryz.func72, Tryz.ntmps72
  go_wp2_with fail
  go_ret
  exact ⟨rfl, (Below.refl _ _).alloc (Nat.le_refl _) _⟩

theorem ident_may (rb cap : Nat) (B : By) (x : Nd) (pv : Value) (w : World) (h : IdPtr w rb cap B x pv) :
    Calls Tryz.prog 72 #[.agg #[.pointer none, .slice none 0 0, .slice none 0 0, .string ⟨#[]⟩], pv] w fun e w' => ∃ po, e = .returned (.pointer po) ∧ MayV (From w.heap.size) w' x (.pointer po) ∧ Below w.heap.size w w' := by
  rcases h with ⟨h0, rfl⟩ | ⟨h33, k, q, rfl, hT, hI⟩
  · refine (ident_none w).mono ?_
    rintro e w' ⟨rfl, hb⟩
    exact ⟨_, rfl, .inl ⟨h0, rfl⟩, hb⟩
  · refine (ident_at k rb cap q B x.text hI w hT).mono ?_
    rintro e w' ⟨k1, rfl, hk, hc, hb⟩
    exact ⟨_, rfl, .inr ⟨h33, k1, hk, rfl, hc⟩, hb⟩

theorem leAt_one {B : By} {q : Nat} (h : q + 1 ≤ B.length) : ∃ u : UInt8, B[q]? = some u ∧ leAt B q 1 = u.toNat := by
  have hq : q < B.length := by omega
  refine ⟨B[q], List.getElem?_eq_getElem hq, ?_⟩
  unfold leAt
  rw [List.drop_eq_getElem_cons hq, List.take_succ_cons, List.take_zero]
  simp [Lib.leNat]

theorem wrap_i8 (m : Int) : IntKind.i8.wrap m = if m % 256 ≥ 128 then m % 256 - 256 else m % 256 := by simp [IntKind.wrap, IntKind.bits, IntKind.signed]

theorem MayV.id {A : Nat → Prop} {w : World} {x : Nd} {v : Value} (h : MayV A w x v) (hx : x.kind = 33) : IdV A w x v := by
  rcases h with h | h
  · exact absurd (h.1.symm.trans hx) (by decide)
  · exact h.2

/-- newFBTable, its function a method's value. -/
theorem newFB_any (F tb rb cap q : Nat) (ba : Addr) (B : By) (w : World) (hrb : rb < w.heap.size) (htb : tb < w.heap.size) (he : ∀ (args : Array Value) (w' : World), Sem.run Tryz.prog (callFunc F args) w' = .ok (.enter F args) w')
    (hc : ∀ (k : Nat) (w1 : World), Below w.heap.size w w1 → w.heap.size ≤ k → w1.cell? ⟨k, 0, none⟩ = some (.slice none 0 0) → w1.cell? ⟨k, 1, none⟩ = some (.int .u32 0) → w1.frozen? ⟨k, 0, none⟩ = false → w1.frozen? ⟨k, 1, none⟩ = false →
      Calls Tryz.prog F #[.pointer (some ⟨tb, 0, none⟩), .pointer (some ⟨k, 0, none⟩)] w1 fun e w2 => e = .returned (.bool true) ∧ TabIn w2 k 0 rb cap B q ∧ Below k w1 w2) :
    Calls Tryz.prog 54 #[.func (.func F) #[.pointer (some ⟨tb, 0, none⟩)] #[], .pointer (some ba)] w fun e w' => ∃ k, e = .returned (.pointer (some ⟨k, 0, none⟩)) ∧ w.heap.size ≤ k ∧ TabIn w' k 0 rb cap B q ∧ Below w.heap.size w w' := by
  have HC := Lib.hid hc
  clear hc
  go_enter Tryz.func54, Tryz.ntmps54
  go_upto_region 2 with fail
  obtain ⟨ka0, ka1, kf0, kf1⟩ := two_new w (.slice none 0 0) (.int .u32 0) 256
  have HBA := Lib.hid (Below.alloc (Below.refl w.heap.size w) (Nat.le_refl _) (.cells #[.slice none 0 0, .int .u32 0] 256))
  obtain ⟨k, hk⟩ : ∃ k, k = w.heap.size := ⟨_, rfl⟩
  rw [← hk] at ka0 ka1 kf0 kf1 ⊢
  have HK := Lib.hid hk
  clear hk
  generalize w.alloc (.cells #[.slice none 0 0, .int .u32 0] 256) = U at *
  have hcx := HC.out k U HBA.out (Nat.le_of_eq HK.out.symm) ka0 ka1 kf0 kf1
  clear ka0 ka1 kf0 kf1
  go_wp2_with fail
  refine hcx.mono ?_
  clear hcx
  rintro e w2 ⟨rfl, hT, hb⟩
  have HT := Lib.hid hT
  have HB := Lib.hid hb
  clear hT hb
  go_wp2_with fail
  go_ret
  exact ⟨k, rfl, Nat.le_of_eq HK.out.symm, HT.out, HBA.out.trans (HB.out.mono (Nat.le_of_eq HK.out.symm))⟩

theorem ArrayType_Base (tb rb cap p : Nat) (B : By) (ps : List Nat) (hb : BaseOf B p ps) (w : World) (h : TabIn w tb 0 rb cap B p) (ht : TabAt B p ps) :
    Calls Tryz.prog 52 #[.pointer (some ⟨tb, 0, none⟩), .pointer none] w fun e w' => ∃ pv, e = .returned pv ∧ BasePtr w' rb cap B pv ∧ Below w.heap.size w w' := by
  cases hb with
  | none hx =>
    refine (ArrayType_BaseNode_none tb rb cap p B ps hx w h ht).mono ?_
    rintro e w1 ⟨rfl, m, rfl⟩
    exact ⟨_, rfl, .inl rfl, below_drewN' (Below.refl _ _) m⟩
  | some x d d' hx h0 hl hq hd hz hb =>
    refine (ArrayType_BaseNode tb rb cap p B ps x hx h0 w h ht hl hq d hd hz).mono ?_
    rintro e w1 ⟨k1, rfl, hk1, hT1, hb1⟩
    exact ⟨_, rfl, .inr ⟨k1, _, d', rfl, hT1, hb⟩, hb1⟩

theorem FunctionType_Base (tb rb cap p : Nat) (B : By) (ps : List Nat) (hb : BaseOf B p ps) (w : World) (h : TabIn w tb 0 rb cap B p) (ht : TabAt B p ps) :
    Calls Tryz.prog 63 #[.pointer (some ⟨tb, 0, none⟩), .pointer none] w fun e w' => ∃ pv, e = .returned pv ∧ BasePtr w' rb cap B pv ∧ Below w.heap.size w w' := by
  cases hb with
  | none hx =>
    refine (FunctionType_BaseNode_none tb rb cap p B ps hx w h ht).mono ?_
    rintro e w1 ⟨rfl, m, rfl⟩
    exact ⟨_, rfl, .inl rfl, below_drewN' (Below.refl _ _) m⟩
  | some x d d' hx h0 hl hq hd hz hb =>
    refine (FunctionType_BaseNode tb rb cap p B ps x hx h0 w h ht hl hq d hd hz).mono ?_
    rintro e w1 ⟨k1, rfl, hk1, hT1, hb1⟩
    exact ⟨_, rfl, .inr ⟨k1, _, d', rfl, hT1, hb⟩, hb1⟩

theorem RecordType_Base (tb rb cap p : Nat) (B : By) (ps : List Nat) (hb : BaseOf B p ps) (w : World) (h : TabIn w tb 0 rb cap B p) (ht : TabAt B p ps) :
    Calls Tryz.prog 71 #[.pointer (some ⟨tb, 0, none⟩), .pointer none] w fun e w' => ∃ pv, e = .returned pv ∧ BasePtr w' rb cap B pv ∧ Below w.heap.size w w' := by
  cases hb with
  | none hx =>
    refine (RecordType_BaseNode_none tb rb cap p B ps hx w h ht).mono ?_
    rintro e w1 ⟨rfl, m, rfl⟩
    exact ⟨_, rfl, .inl rfl, below_drewN' (Below.refl _ _) m⟩
  | some x d d' hx h0 hl hq hd hz hb =>
    refine (RecordType_BaseNode tb rb cap p B ps x hx h0 w h ht hl hq d hd hz).mono ?_
    rintro e w1 ⟨k1, rfl, hk1, hT1, hb1⟩
    exact ⟨_, rfl, .inr ⟨k1, _, d', rfl, hT1, hb⟩, hb1⟩

theorem DictType_Base (tb rb cap p : Nat) (B : By) (ps : List Nat) (hb : BaseOf B p ps) (w : World) (h : TabIn w tb 0 rb cap B p) (ht : TabAt B p ps) :
    Calls Tryz.prog 166 #[.pointer (some ⟨tb, 0, none⟩), .pointer none] w fun e w' => ∃ pv, e = .returned pv ∧ BasePtr w' rb cap B pv ∧ Below w.heap.size w w' := by
  cases hb with
  | none hx =>
    refine (DictType_BaseNode_none tb rb cap p B ps hx w h ht).mono ?_
    rintro e w1 ⟨rfl, m, rfl⟩
    exact ⟨_, rfl, .inl rfl, below_drewN' (Below.refl _ _) m⟩
  | some x d d' hx h0 hl hq hd hz hb =>
    refine (DictType_BaseNode tb rb cap p B ps x hx h0 w h ht hl hq d hd hz).mono ?_
    rintro e w1 ⟨k1, rfl, hk1, hT1, hb1⟩
    exact ⟨_, rfl, .inr ⟨k1, _, d', rfl, hT1, hb⟩, hb1⟩

theorem PropertyType_Base (tb rb cap p : Nat) (B : By) (ps : List Nat) (hb : BaseOf B p ps) (w : World) (h : TabIn w tb 0 rb cap B p) (ht : TabAt B p ps) :
    Calls Tryz.prog 131 #[.pointer (some ⟨tb, 0, none⟩), .pointer none] w fun e w' => ∃ pv, e = .returned pv ∧ BasePtr w' rb cap B pv ∧ Below w.heap.size w w' := by
  cases hb with
  | none hx =>
    refine (PropertyType_BaseNode_none tb rb cap p B ps hx w h ht).mono ?_
    rintro e w1 ⟨rfl, m, rfl⟩
    exact ⟨_, rfl, .inl rfl, below_drewN' (Below.refl _ _) m⟩
  | some x d d' hx h0 hl hq hd hz hb =>
    refine (PropertyType_BaseNode tb rb cap p B ps x hx h0 w h ht hl hq d hd hz).mono ?_
    rintro e w1 ⟨k1, rfl, hk1, hT1, hb1⟩
    exact ⟨_, rfl, .inr ⟨k1, _, d', rfl, hT1, hb⟩, hb1⟩

theorem ParameterType_Base (tb rb cap p : Nat) (B : By) (ps : List Nat) (hb : BaseOf B p ps) (w : World) (h : TabIn w tb 0 rb cap B p) (ht : TabAt B p ps) :
    Calls Tryz.prog 121 #[.pointer (some ⟨tb, 0, none⟩), .pointer none] w fun e w' => ∃ pv, e = .returned pv ∧ BasePtr w' rb cap B pv ∧ Below w.heap.size w w' := by
  cases hb with
  | none hx =>
    refine (ParameterType_BaseNode_none tb rb cap p B ps hx w h ht).mono ?_
    rintro e w1 ⟨rfl, m, rfl⟩
    exact ⟨_, rfl, .inl rfl, below_drewN' (Below.refl _ _) m⟩
  | some x d d' hx h0 hl hq hd hz hb =>
    refine (ParameterType_BaseNode tb rb cap p B ps x hx h0 w h ht hl hq d hd hz).mono ?_
    rintro e w1 ⟨k1, rfl, hk1, hT1, hb1⟩
    exact ⟨_, rfl, .inr ⟨k1, _, d', rfl, hT1, hb⟩, hb1⟩

theorem NamedType_Base (tb rb cap p : Nat) (B : By) (ps : List Nat) (hb : BaseOf B p ps) (w : World) (h : TabIn w tb 0 rb cap B p) (ht : TabAt B p ps) :
    Calls Tryz.prog 162 #[.pointer (some ⟨tb, 0, none⟩), .pointer none] w fun e w' => ∃ pv, e = .returned pv ∧ BasePtr w' rb cap B pv ∧ Below w.heap.size w w' := by
  cases hb with
  | none hx =>
    refine (NamedType_BaseNode_none tb rb cap p B ps hx w h ht).mono ?_
    rintro e w1 ⟨rfl, m, rfl⟩
    exact ⟨_, rfl, .inl rfl, below_drewN' (Below.refl _ _) m⟩
  | some x d d' hx h0 hl hq hd hz hb =>
    refine (NamedType_BaseNode tb rb cap p B ps x hx h0 w h ht hl hq d hd hz).mono ?_
    rintro e w1 ⟨k1, rfl, hk1, hT1, hb1⟩
    exact ⟨_, rfl, .inr ⟨k1, _, d', rfl, hT1, hb⟩, hb1⟩

theorem TvarType_Base (tb rb cap p : Nat) (B : By) (ps : List Nat) (hb : BaseOf B p ps) (w : World) (h : TabIn w tb 0 rb cap B p) (ht : TabAt B p ps) :
    Calls Tryz.prog 164 #[.pointer (some ⟨tb, 0, none⟩), .pointer none] w fun e w' => ∃ pv, e = .returned pv ∧ BasePtr w' rb cap B pv ∧ Below w.heap.size w w' := by
  cases hb with
  | none hx =>
    refine (TvarType_BaseNode_none tb rb cap p B ps hx w h ht).mono ?_
    rintro e w1 ⟨rfl, m, rfl⟩
    exact ⟨_, rfl, .inl rfl, below_drewN' (Below.refl _ _) m⟩
  | some x d d' hx h0 hl hq hd hz hb =>
    refine (TvarType_BaseNode tb rb cap p B ps x hx h0 w h ht hl hq d hd hz).mono ?_
    rintro e w1 ⟨k1, rfl, hk1, hT1, hb1⟩
    exact ⟨_, rfl, .inr ⟨k1, _, d', rfl, hT1, hb⟩, hb1⟩

theorem NamedType_Id_may (tb rb cap p : Nat) (B : By) (ps : List Nat) (x : Nd) (hm : MayAt B p ps 1 x) (w : World) (h : TabIn w tb 0 rb cap B p) (ht : TabAt B p ps) :
    Calls Tryz.prog 163 #[.pointer (some ⟨tb, 0, none⟩), .pointer none] w fun e w' => ∃ pv, e = .returned pv ∧ IdPtr w' rb cap B x pv ∧ Below w.heap.size w w' := by
  rcases hm with ⟨h0, hx⟩ | ⟨h33, y, yd, hy, hy0, hl, hq, hd, hz, hI⟩
  · refine (NamedType_Id_none tb rb cap p B ps hx w h ht).mono ?_
    rintro e w1 ⟨rfl, m, rfl⟩
    exact ⟨_, rfl, .inl ⟨h0, rfl⟩, below_drewN' (Below.refl _ _) m⟩
  · refine (NamedType_Id tb rb cap p B ps y hy hy0 w h ht hl hq yd hd hz).mono ?_
    rintro e w1 ⟨k1, rfl, hk1, hT1, hb1⟩
    exact ⟨_, rfl, .inr ⟨h33, k1, _, rfl, hT1, hI⟩, hb1⟩

theorem TvarType_Id_may (tb rb cap p : Nat) (B : By) (ps : List Nat) (x : Nd) (hm : MayAt B p ps 1 x) (w : World) (h : TabIn w tb 0 rb cap B p) (ht : TabAt B p ps) :
    Calls Tryz.prog 165 #[.pointer (some ⟨tb, 0, none⟩), .pointer none] w fun e w' => ∃ pv, e = .returned pv ∧ IdPtr w' rb cap B x pv ∧ Below w.heap.size w w' := by
  rcases hm with ⟨h0, hx⟩ | ⟨h33, y, yd, hy, hy0, hl, hq, hd, hz, hI⟩
  · refine (TvarType_Id_none tb rb cap p B ps hx w h ht).mono ?_
    rintro e w1 ⟨rfl, m, rfl⟩
    exact ⟨_, rfl, .inl ⟨h0, rfl⟩, below_drewN' (Below.refl _ _) m⟩
  · refine (TvarType_Id tb rb cap p B ps y hy hy0 w h ht hl hq yd hd hz).mono ?_
    rintro e w1 ⟨k1, rfl, hk1, hT1, hb1⟩
    exact ⟨_, rfl, .inr ⟨h33, k1, _, rfl, hT1, hI⟩, hb1⟩

theorem PropertyType_Id_may (tb rb cap p : Nat) (B : By) (ps : List Nat) (x : Nd) (hm : MayAt B p ps 1 x) (w : World) (h : TabIn w tb 0 rb cap B p) (ht : TabAt B p ps) :
    Calls Tryz.prog 132 #[.pointer (some ⟨tb, 0, none⟩), .pointer none] w fun e w' => ∃ pv, e = .returned pv ∧ IdPtr w' rb cap B x pv ∧ Below w.heap.size w w' := by
  rcases hm with ⟨h0, hx⟩ | ⟨h33, y, yd, hy, hy0, hl, hq, hd, hz, hI⟩
  · refine (PropertyType_Id_none tb rb cap p B ps hx w h ht).mono ?_
    rintro e w1 ⟨rfl, m, rfl⟩
    exact ⟨_, rfl, .inl ⟨h0, rfl⟩, below_drewN' (Below.refl _ _) m⟩
  · refine (PropertyType_Id tb rb cap p B ps y hy hy0 w h ht hl hq yd hd hz).mono ?_
    rintro e w1 ⟨k1, rfl, hk1, hT1, hb1⟩
    exact ⟨_, rfl, .inr ⟨h33, k1, _, rfl, hT1, hI⟩, hb1⟩

theorem ParameterType_Id_may (tb rb cap p : Nat) (B : By) (ps : List Nat) (x : Nd) (hm : MayAt B p ps 1 x) (w : World) (h : TabIn w tb 0 rb cap B p) (ht : TabAt B p ps) :
    Calls Tryz.prog 122 #[.pointer (some ⟨tb, 0, none⟩), .pointer none] w fun e w' => ∃ pv, e = .returned pv ∧ IdPtr w' rb cap B x pv ∧ Below w.heap.size w w' := by
  rcases hm with ⟨h0, hx⟩ | ⟨h33, y, yd, hy, hy0, hl, hq, hd, hz, hI⟩
  · refine (ParameterType_Id_none tb rb cap p B ps hx w h ht).mono ?_
    rintro e w1 ⟨rfl, m, rfl⟩
    exact ⟨_, rfl, .inl ⟨h0, rfl⟩, below_drewN' (Below.refl _ _) m⟩
  · refine (ParameterType_Id tb rb cap p B ps y hy hy0 w h ht hl hq yd hd hz).mono ?_
    rintro e w1 ⟨k1, rfl, hk1, hT1, hb1⟩
    exact ⟨_, rfl, .inr ⟨h33, k1, _, rfl, hT1, hI⟩, hb1⟩

theorem RecordType_Tvar_may (tb rb cap p : Nat) (B : By) (ps : List Nat) (x : Nd) (hm : MayAt B p ps 2 x) (w : World) (h : TabIn w tb 0 rb cap B p) (ht : TabAt B p ps) :
    Calls Tryz.prog 73 #[.pointer (some ⟨tb, 0, none⟩), .pointer none] w fun e w' => ∃ pv, e = .returned pv ∧ IdPtr w' rb cap B x pv ∧ Below w.heap.size w w' := by
  rcases hm with ⟨h0, hx⟩ | ⟨h33, y, yd, hy, hy0, hl, hq, hd, hz, hI⟩
  · refine (RecordType_Tvar_none tb rb cap p B ps hx w h ht).mono ?_
    rintro e w1 ⟨rfl, m, rfl⟩
    exact ⟨_, rfl, .inl ⟨h0, rfl⟩, below_drewN' (Below.refl _ _) m⟩
  · refine (RecordType_Tvar tb rb cap p B ps y hy hy0 w h ht hl hq yd hd hz).mono ?_
    rintro e w1 ⟨k1, rfl, hk1, hT1, hb1⟩
    exact ⟨_, rfl, .inr ⟨h33, k1, _, rfl, hT1, hI⟩, hb1⟩

theorem ArrayType_ElementType_at (tb rb cap p c : Nat) (B : By) (ps : List Nat) (hn : NumAt B p ps 1 c) (w : World) (h : TabIn w tb 0 rb cap B p) (ht : TabAt B p ps) :
    Calls Tryz.prog 56 #[.pointer (some ⟨tb, 0, none⟩)] w fun e w' => e = .returned (.int .u8 (c : Nat)) ∧ Below w.heap.size w w' := by
  obtain ⟨x, hx, h0, hl, hq, hc⟩ := hn
  obtain ⟨u, hu, hu2⟩ := leAt_one hq
  obtain rfl : c = u.toNat := hc.symm.trans hu2
  refine (ArrayType_ElementType tb rb cap p B ps x hx h0 w h ht u hl hu).mono ?_
  rintro e w1 ⟨rfl, m, rfl⟩
  exact ⟨rfl, below_drewN' (Below.refl _ _) m⟩

theorem ArrayType_Element_fb (tb rb cap p : Nat) (B : By) (ps : List Nat) (R : By → Nat → Prop) (hr : RefAt B p ps 2 R) (ba : Addr) (w : World) (h : TabIn w tb 0 rb cap B p) (ht : TabAt B p ps) :
    Calls Tryz.prog 54 #[.func (.func 55) #[.pointer (some ⟨tb, 0, none⟩)] #[], .pointer (some ba)] w fun e w' => ∃ k q, e = .returned (.pointer (some ⟨k, 0, none⟩)) ∧ TabIn w' k 0 rb cap B q ∧ R B q ∧ Below w.heap.size w w' := by
  obtain ⟨y, yd, hy, hy0, hl, hq, hd, hz, hR⟩ := hr
  have htb : tb < w.heap.size := World.block_lt_of_cell? w _ h.hs
  have hrb : rb < w.heap.size := h.hi.lt (by have := h.hq; omega)
  refine (newFB_any 55 tb rb cap (y + p + yd) ba B w hrb htb (fun args w' => by kernel_rfl) (fun k w1 hb hk k0 k1 f0 f1 => ArrayType_Element tb rb cap p B ps y hy hy0 w1 (h.below hb htb hrb) ht hl hq yd hd hz k _ _ k0 k1 f0 f1 (by omega) (by omega))).mono ?_
  rintro e w' ⟨k, rfl, hk, hT, hb⟩
  exact ⟨k, _, rfl, hT, hR, hb⟩

theorem DictType_KeyType_at (tb rb cap p c : Nat) (B : By) (ps : List Nat) (hn : NumAt B p ps 1 c) (w : World) (h : TabIn w tb 0 rb cap B p) (ht : TabAt B p ps) :
    Calls Tryz.prog 168 #[.pointer (some ⟨tb, 0, none⟩)] w fun e w' => e = .returned (.int .u8 (c : Nat)) ∧ Below w.heap.size w w' := by
  obtain ⟨x, hx, h0, hl, hq, hc⟩ := hn
  obtain ⟨u, hu, hu2⟩ := leAt_one hq
  obtain rfl : c = u.toNat := hc.symm.trans hu2
  refine (DictType_KeyType tb rb cap p B ps x hx h0 w h ht u hl hu).mono ?_
  rintro e w1 ⟨rfl, m, rfl⟩
  exact ⟨rfl, below_drewN' (Below.refl _ _) m⟩

theorem DictType_Key_fb (tb rb cap p : Nat) (B : By) (ps : List Nat) (R : By → Nat → Prop) (hr : RefAt B p ps 2 R) (ba : Addr) (w : World) (h : TabIn w tb 0 rb cap B p) (ht : TabAt B p ps) :
    Calls Tryz.prog 54 #[.func (.func 167) #[.pointer (some ⟨tb, 0, none⟩)] #[], .pointer (some ba)] w fun e w' => ∃ k q, e = .returned (.pointer (some ⟨k, 0, none⟩)) ∧ TabIn w' k 0 rb cap B q ∧ R B q ∧ Below w.heap.size w w' := by
  obtain ⟨y, yd, hy, hy0, hl, hq, hd, hz, hR⟩ := hr
  have htb : tb < w.heap.size := World.block_lt_of_cell? w _ h.hs
  have hrb : rb < w.heap.size := h.hi.lt (by have := h.hq; omega)
  refine (newFB_any 167 tb rb cap (y + p + yd) ba B w hrb htb (fun args w' => by kernel_rfl) (fun k w1 hb hk k0 k1 f0 f1 => DictType_Key tb rb cap p B ps y hy hy0 w1 (h.below hb htb hrb) ht hl hq yd hd hz k _ _ k0 k1 f0 f1 (by omega) (by omega))).mono ?_
  rintro e w' ⟨k, rfl, hk, hT, hb⟩
  exact ⟨k, _, rfl, hT, hR, hb⟩

theorem DictType_ValType_at (tb rb cap p c : Nat) (B : By) (ps : List Nat) (hn : NumAt B p ps 3 c) (w : World) (h : TabIn w tb 0 rb cap B p) (ht : TabAt B p ps) :
    Calls Tryz.prog 170 #[.pointer (some ⟨tb, 0, none⟩)] w fun e w' => e = .returned (.int .u8 (c : Nat)) ∧ Below w.heap.size w w' := by
  obtain ⟨x, hx, h0, hl, hq, hc⟩ := hn
  obtain ⟨u, hu, hu2⟩ := leAt_one hq
  obtain rfl : c = u.toNat := hc.symm.trans hu2
  refine (DictType_ValType tb rb cap p B ps x hx h0 w h ht u hl hu).mono ?_
  rintro e w1 ⟨rfl, m, rfl⟩
  exact ⟨rfl, below_drewN' (Below.refl _ _) m⟩

theorem DictType_Val_fb (tb rb cap p : Nat) (B : By) (ps : List Nat) (R : By → Nat → Prop) (hr : RefAt B p ps 4 R) (ba : Addr) (w : World) (h : TabIn w tb 0 rb cap B p) (ht : TabAt B p ps) :
    Calls Tryz.prog 54 #[.func (.func 169) #[.pointer (some ⟨tb, 0, none⟩)] #[], .pointer (some ba)] w fun e w' => ∃ k q, e = .returned (.pointer (some ⟨k, 0, none⟩)) ∧ TabIn w' k 0 rb cap B q ∧ R B q ∧ Below w.heap.size w w' := by
  obtain ⟨y, yd, hy, hy0, hl, hq, hd, hz, hR⟩ := hr
  have htb : tb < w.heap.size := World.block_lt_of_cell? w _ h.hs
  have hrb : rb < w.heap.size := h.hi.lt (by have := h.hq; omega)
  refine (newFB_any 169 tb rb cap (y + p + yd) ba B w hrb htb (fun args w' => by kernel_rfl) (fun k w1 hb hk k0 k1 f0 f1 => DictType_Val tb rb cap p B ps y hy hy0 w1 (h.below hb htb hrb) ht hl hq yd hd hz k _ _ k0 k1 f0 f1 (by omega) (by omega))).mono ?_
  rintro e w' ⟨k, rfl, hk, hT, hb⟩
  exact ⟨k, _, rfl, hT, hR, hb⟩

theorem PropertyType_MonotypeType_at (tb rb cap p c : Nat) (B : By) (ps : List Nat) (hn : NumAt B p ps 2 c) (w : World) (h : TabIn w tb 0 rb cap B p) (ht : TabAt B p ps) :
    Calls Tryz.prog 134 #[.pointer (some ⟨tb, 0, none⟩)] w fun e w' => e = .returned (.int .u8 (c : Nat)) ∧ Below w.heap.size w w' := by
  obtain ⟨x, hx, h0, hl, hq, hc⟩ := hn
  obtain ⟨u, hu, hu2⟩ := leAt_one hq
  obtain rfl : c = u.toNat := hc.symm.trans hu2
  refine (PropertyType_MonotypeType tb rb cap p B ps x hx h0 w h ht u hl hu).mono ?_
  rintro e w1 ⟨rfl, m, rfl⟩
  exact ⟨rfl, below_drewN' (Below.refl _ _) m⟩

theorem PropertyType_Monotype_fb (tb rb cap p : Nat) (B : By) (ps : List Nat) (R : By → Nat → Prop) (hr : RefAt B p ps 3 R) (ba : Addr) (w : World) (h : TabIn w tb 0 rb cap B p) (ht : TabAt B p ps) :
    Calls Tryz.prog 54 #[.func (.func 133) #[.pointer (some ⟨tb, 0, none⟩)] #[], .pointer (some ba)] w fun e w' => ∃ k q, e = .returned (.pointer (some ⟨k, 0, none⟩)) ∧ TabIn w' k 0 rb cap B q ∧ R B q ∧ Below w.heap.size w w' := by
  obtain ⟨y, yd, hy, hy0, hl, hq, hd, hz, hR⟩ := hr
  have htb : tb < w.heap.size := World.block_lt_of_cell? w _ h.hs
  have hrb : rb < w.heap.size := h.hi.lt (by have := h.hq; omega)
  refine (newFB_any 133 tb rb cap (y + p + yd) ba B w hrb htb (fun args w' => by kernel_rfl) (fun k w1 hb hk k0 k1 f0 f1 => PropertyType_Monotype tb rb cap p B ps y hy hy0 w1 (h.below hb htb hrb) ht hl hq yd hd hz k _ _ k0 k1 f0 f1 (by omega) (by omega))).mono ?_
  rintro e w' ⟨k, rfl, hk, hT, hb⟩
  exact ⟨k, _, rfl, hT, hR, hb⟩

theorem ParameterType_MonotypeType_at (tb rb cap p c : Nat) (B : By) (ps : List Nat) (hn : NumAt B p ps 2 c) (w : World) (h : TabIn w tb 0 rb cap B p) (ht : TabAt B p ps) :
    Calls Tryz.prog 124 #[.pointer (some ⟨tb, 0, none⟩)] w fun e w' => e = .returned (.int .u8 (c : Nat)) ∧ Below w.heap.size w w' := by
  obtain ⟨x, hx, h0, hl, hq, hc⟩ := hn
  obtain ⟨u, hu, hu2⟩ := leAt_one hq
  obtain rfl : c = u.toNat := hc.symm.trans hu2
  refine (ParameterType_MonotypeType tb rb cap p B ps x hx h0 w h ht u hl hu).mono ?_
  rintro e w1 ⟨rfl, m, rfl⟩
  exact ⟨rfl, below_drewN' (Below.refl _ _) m⟩

theorem ParameterType_Monotype_fb (tb rb cap p : Nat) (B : By) (ps : List Nat) (R : By → Nat → Prop) (hr : RefAt B p ps 3 R) (ba : Addr) (w : World) (h : TabIn w tb 0 rb cap B p) (ht : TabAt B p ps) :
    Calls Tryz.prog 54 #[.func (.func 123) #[.pointer (some ⟨tb, 0, none⟩)] #[], .pointer (some ba)] w fun e w' => ∃ k q, e = .returned (.pointer (some ⟨k, 0, none⟩)) ∧ TabIn w' k 0 rb cap B q ∧ R B q ∧ Below w.heap.size w w' := by
  obtain ⟨y, yd, hy, hy0, hl, hq, hd, hz, hR⟩ := hr
  have htb : tb < w.heap.size := World.block_lt_of_cell? w _ h.hs
  have hrb : rb < w.heap.size := h.hi.lt (by have := h.hq; omega)
  refine (newFB_any 123 tb rb cap (y + p + yd) ba B w hrb htb (fun args w' => by kernel_rfl) (fun k w1 hb hk k0 k1 f0 f1 => ParameterType_Monotype tb rb cap p B ps y hy hy0 w1 (h.below hb htb hrb) ht hl hq yd hd hz k _ _ k0 k1 f0 f1 (by omega) (by omega))).mono ?_
  rintro e w' ⟨k, rfl, hk, hT, hb⟩
  exact ⟨k, _, rfl, hT, hR, hb⟩

theorem FunctionType_MonotypeType_at (tb rb cap p c : Nat) (B : By) (ps : List Nat) (hn : NumAt B p ps 2 c) (w : World) (h : TabIn w tb 0 rb cap B p) (ht : TabAt B p ps) :
    Calls Tryz.prog 65 #[.pointer (some ⟨tb, 0, none⟩)] w fun e w' => e = .returned (.int .u8 (c : Nat)) ∧ Below w.heap.size w w' := by
  obtain ⟨x, hx, h0, hl, hq, hc⟩ := hn
  obtain ⟨u, hu, hu2⟩ := leAt_one hq
  obtain rfl : c = u.toNat := hc.symm.trans hu2
  refine (FunctionType_MonotypeType tb rb cap p B ps x hx h0 w h ht u hl hu).mono ?_
  rintro e w1 ⟨rfl, m, rfl⟩
  exact ⟨rfl, below_drewN' (Below.refl _ _) m⟩

theorem FunctionType_Monotype_fb (tb rb cap p : Nat) (B : By) (ps : List Nat) (R : By → Nat → Prop) (hr : RefAt B p ps 3 R) (ba : Addr) (w : World) (h : TabIn w tb 0 rb cap B p) (ht : TabAt B p ps) :
    Calls Tryz.prog 54 #[.func (.func 64) #[.pointer (some ⟨tb, 0, none⟩)] #[], .pointer (some ba)] w fun e w' => ∃ k q, e = .returned (.pointer (some ⟨k, 0, none⟩)) ∧ TabIn w' k 0 rb cap B q ∧ R B q ∧ Below w.heap.size w w' := by
  obtain ⟨y, yd, hy, hy0, hl, hq, hd, hz, hR⟩ := hr
  have htb : tb < w.heap.size := World.block_lt_of_cell? w _ h.hs
  have hrb : rb < w.heap.size := h.hi.lt (by have := h.hq; omega)
  refine (newFB_any 64 tb rb cap (y + p + yd) ba B w hrb htb (fun args w' => by kernel_rfl) (fun k w1 hb hk k0 k1 f0 f1 => FunctionType_Monotype tb rb cap p B ps y hy hy0 w1 (h.below hb htb hrb) ht hl hq yd hd hz k _ _ k0 k1 f0 f1 (by omega) (by omega))).mono ?_
  rintro e w' ⟨k, rfl, hk, hT, hb⟩
  exact ⟨k, _, rfl, hT, hR, hb⟩

theorem ParameterType_Kind_at (tb rb cap p c : Nat) (B : By) (ps : List Nat) (hn : NumAt B p ps 4 c) (hc : c ≤ 2) (w : World) (h : TabIn w tb 0 rb cap B p) (ht : TabAt B p ps) :
    Calls Tryz.prog 126 #[.pointer (some ⟨tb, 0, none⟩)] w fun e w' => e = .returned (.int .i8 (c : Nat)) ∧ Below w.heap.size w w' := by
  obtain ⟨x, hx, h0, hl, hq, hcc⟩ := hn
  obtain ⟨u, hu, hu2⟩ := leAt_one hq
  obtain rfl : c = u.toNat := hcc.symm.trans hu2
  refine (ParameterType_Kind tb rb cap p B ps x hx h0 w h ht u hl hu).mono ?_
  rintro e w1 ⟨rfl, m, rfl⟩
  refine ⟨?_, below_drewN' (Below.refl _ _) m⟩
  have hw : IntKind.i8.wrap (u.toNat : Int) = (u.toNat : Int) := by
    rw [wrap_i8]
    split <;> omega
  rw [hw]

end Go.Proofs.YtcbcdgifakcooaaGreatDoor
