/-
  The slots of nodes, by kind. No conditions.
-/
import Derived.Test.YtcbcdgifakcooaaGreatDoorBuffer
namespace Go.Proofs.YtcbcdgifakcooaaGreatDoor
open Go.RowKit
set_option linter.unusedVariables false
set_option linter.unusedSimpArgs false

theorem flat_length4 : ∀ sl : List Sl, (sl.flatMap Sl.cells).length = sl.length * 4
  | [] => rfl
  | s :: sl => by rw [List.flatMap_cons, List.length_append, flat_length4 sl, List.length_cons]; show 4 + sl.length * 4 = _; omega

/-- A row of slots that has just been laid is owned. -/
theorem row_own (wa : World) (sl : List Sl) (h : sl.length ≤ 1000) : (wa.alloc (.cells (sl.flatMap Sl.cells).toArray 265)).ownsRow wa.heap.size 265 4 (.slice (some ⟨wa.heap.size, 0, none⟩) sl.length sl.length) sl.length (sl.flatMap Sl.cells) := by
  refine ⟨flat_length4 sl, .inr ⟨wa.heap.size, sl.length, (sl.flatMap Sl.cells).toArray, rfl, Nat.le_refl _, heap_alloc_new wa _, Nat.le_refl _, by unfold maxLen; omega, by simpa using flat_length4 sl, ?_⟩⟩
  rw [← flat_length4 sl]
  exact List.take_length

/-- What a function that hands back a literal list of slots leaves behind. -/
def LitPost (w : World) (sl : List Sl) (wa : World) (e : Ending) (w' : World) : Prop :=
  e = .returned (.slice (some ⟨wa.heap.size, 0, none⟩) sl.length sl.length) ∧ w' = wa.alloc (.cells (sl.flatMap Sl.cells).toArray 265) ∧ Below w.heap.size w wa

theorem litPost_slots {K mb rb : Nat} {bs : Bool} {w w1 wa w' : World} {sl : List Sl} {P : List Sl → Prop} (hb : Below w.heap.size w w1) (hw : Below w1.heap.size w1 wa) (he : w' = wa.alloc (.cells (sl.flatMap Sl.cells).toArray 265)) (hP : P sl) (hn : sl.length ≤ 1000) (hr : ∀ t ∈ sl, ∀ F c, t.ref = some (F, c) → RefC K mb bs F c t.bd t.R wa rb) :
    ∃ (v : Value) (sl' : List Sl) (wa' : World), Ending.returned (.slice (some ⟨wa.heap.size, 0, none⟩) sl.length sl.length) = .returned v ∧ P sl' ∧ Below w.heap.size w wa' ∧ Below wa'.heap.size wa' w' ∧ w'.ownsRow wa'.heap.size 265 4 v sl'.length (sl'.flatMap Sl.cells) ∧ (∀ t ∈ sl', ∀ F c, t.ref = some (F, c) → RefC K mb bs F c t.bd t.R wa' rb) := by
  subst he
  exact ⟨_, sl, wa, rfl, hP, hb.trans (hw.mono hb.size), (Below.refl _ _).alloc (Nat.le_refl _) _, row_own wa sl hn, hr⟩

theorem lit_33 (t m : ByteArray) (u : Int) (ao : Option Addr) (len cap : Nat) (w : World) :
    Calls Tryz.prog 112 #[.agg #[.int .i64 33, .string t, .string m, .int .u64 u, .slice ao len cap]] w fun e w' => ∃ (cb : Nat) (wa : World), LitPost w [⟨1, 4, 0, some (204, #[.pointer (some ⟨cb, 0, none⟩)]), TextAt t, t.size + 16⟩] wa e w' ∧ w.heap.size ≤ cb ∧ wa.cell? ⟨cb, 0, none⟩ = some (.string t) := by
  go_enter Tryz.func112, Tryz.ntmps112
  go_wp2_with fail
  refine (textAt_any 1 t _).mono ?_
  rintro e w2 ⟨cb, rfl, hcb, hct, hb2⟩
  have hw : w.heap.size < (w.alloc (.cells #[.int .i64 33, .string t, .string m, .int .u64 u, .slice ao len cap] 25)).heap.size := by simp
  have HB := Lib.hid (((Below.refl w.heap.size w).alloc (Nat.le_refl _) (.cells #[.int .i64 33, .string t, .string m, .int .u64 u, .slice ao len cap] 25)).trans (hb2.mono (Nat.le_of_lt hw)))
  have HC := Lib.hid hct
  have HCB := Lib.hid (Nat.le_of_lt (Nat.lt_of_lt_of_le hw hcb))
  clear hcb hct hb2 hw
  go_wp2_with fail
  go_ret
  exact ⟨cb, w2, ⟨rfl, rfl, HB.out⟩, HCB.out, HC.out⟩

set_option maxRecDepth 100000 in
theorem slC_33 (W0 : World) (bs : Bool) (n : Nd) (hk : n.kind = 33) (hs : n.text.size < 65536) : SlotsC W0 bs n (fun sl => ∃ c, sl = [⟨1, 4, 0, some (204, c), TextAt n.text, n.text.size + 16⟩]) := by
  intro mb rb cap O w hb hm
  have hval : n.val = .agg #[.int .i64 33, .string n.text, .string n.more, .int .u64 n.num, .slice n.ao n.kids.length n.cap] := by rw [← hk]; rfl
  rw [hval]
  have HM := Lib.hid hm
  have HB := Lib.hid hb
  clear hm hb hval
  have hty : isTypeB 33 = false := by decide
  go_enter Tryz.func59, Tryz.ntmps59
  go_wp2_with fail
  refine (isType_any 33 _).mono ?_
  rintro e w2 ⟨rfl, hb1⟩
  have hw : w.heap.size < (w.alloc (.cells #[.int .i64 33, .string n.text, .string n.more, .int .u64 n.num, .slice n.ao n.kids.length n.cap] 25)).heap.size := by simp
  have hcell : ∀ j, (w.alloc (.cells #[.int .i64 33, .string n.text, .string n.more, .int .u64 n.num, .slice n.ao n.kids.length n.cap] 25)).cell? ⟨w.heap.size, j, none⟩ = (#[.int .i64 33, .string n.text, .string n.more, .int .u64 n.num, .slice n.ao n.kids.length n.cap] : Array Value)[j]? := fun j => World.cell?_alloc_at _ _ _ _ rfl
  have n0 := (hb1.cell (p := ⟨w.heap.size, 0, none⟩) hw).trans (hcell 0)
  have n1 := (hb1.cell (p := ⟨w.heap.size, 1, none⟩) hw).trans (hcell 1)
  have n2 := (hb1.cell (p := ⟨w.heap.size, 2, none⟩) hw).trans (hcell 2)
  have n3 := (hb1.cell (p := ⟨w.heap.size, 3, none⟩) hw).trans (hcell 3)
  have n4 := (hb1.cell (p := ⟨w.heap.size, 4, none⟩) hw).trans (hcell 4)
  have hb2 : Below w.heap.size w w2 := ((Below.refl _ _).alloc (Nat.le_refl _) _).trans (hb1.mono (Nat.le_of_lt hw))
  have HB2 := Lib.hid hb2
  clear hb1 hcell hw hb2
  go_wp2_with fail
  refine (lit_33 _ _ _ _ _ _ _).mono ?_
  rintro e w3 ⟨cb, wa, ⟨rfl, hw3, hb3⟩, hcb, hct⟩
  clear n0 n1 n2 n3 n4
  have HW3 := Lib.hid hw3
  clear hw3
  go_wp2_with fail
  go_ret
  have hb2 := HB2.out
  refine litPost_slots HB2.out hb3 HW3.out ⟨_, rfl⟩ (by simp) (fun t ht F c h => ?_)
  · obtain rfl := List.mem_singleton.1 ht
    cases h
    have := hb2.size
    exact text_ref _ _ _ _ _ _ _ hs hct (by have := HM.out.mlt; omega) (by have := HM.out.row.2; omega)


theorem lit_45 (t m : ByteArray) (u : Int) (b o cap : Nat) (x : Nd) (R : By → Nat → Prop) (bd : Nat) (w : World) (hx : NdCells w b o x) :
    Calls Tryz.prog 111 #[.agg #[.int .i64 45, .string t, .string m, .int .u64 u, .slice (some ⟨b, o, none⟩) 1 cap]] w fun e w' => ∃ (cb : Nat) (wa : World), LitPost w [⟨1, 4, 0, some (199, #[.pointer (some ⟨cb, 0, none⟩)]), R, bd⟩] wa e w' ∧ w.heap.size ≤ cb ∧ NdCells wa cb 0 x := by
  have hb : b < w.heap.size := hx.lt
  obtain ⟨c0, c1, c2, c3, c4⟩ := hx
  go_enter Tryz.func111, Tryz.ntmps111
  go_wp2_with fail
  show Calls _ _ #[_, x.val] _ _
  refine (nodeAt_any 1 x _).mono ?_
  rintro e w2 ⟨cb, rfl, hcb, hct, hb2⟩
  have hw : w.heap.size < (w.alloc (.cells #[.int .i64 45, .string t, .string m, .int .u64 u, .slice (some ⟨b, o, none⟩) 1 cap] 25)).heap.size := by simp
  have HB := Lib.hid (((Below.refl w.heap.size w).alloc (Nat.le_refl _) (.cells #[.int .i64 45, .string t, .string m, .int .u64 u, .slice (some ⟨b, o, none⟩) 1 cap] 25)).trans (hb2.mono (Nat.le_of_lt hw)))
  have HC := Lib.hid hct
  have HCB := Lib.hid (Nat.le_of_lt (Nat.lt_of_lt_of_le hw hcb))
  clear hcb hct hb2 hw
  go_wp2_with fail
  go_ret
  exact ⟨cb, w2, ⟨rfl, rfl, HB.out⟩, HCB.out, HC.out⟩

set_option maxRecDepth 100000 in
theorem slC_45 (W0 : World) (bs : Bool) (n : Nd) (hk : n.kind = 45) (x : Nd) (D : Nat) (R : By → Nat → Prop) (bd : Nat) (hkx : n.kids = [x]) (hL : LiesD D W0 n) (hN : NodeW W0 bs bd x R) : SlotsC W0 bs n (fun sl => ∃ c, sl = [⟨1, 4, 0, some (199, c), R, bd⟩]) := by
  intro mb rb cap O w hb hm
  have hval : n.val = .agg #[.int .i64 45, .string n.text, .string n.more, .int .u64 n.num, .slice n.ao n.kids.length n.cap] := by rw [← hk]; rfl
  rw [hval]
  have HM := Lib.hid hm
  have HB := Lib.hid hb
  clear hm hb hval
  have hty : isTypeB 45 = true := by decide
  have hln : n.kids.length = 1 := by rw [hkx]; rfl
  obtain ⟨b, o, hao, hx0⟩ : ∃ b o, n.ao = some ⟨b, o, none⟩ ∧ NdCells w b o x := by
    cases D with
    | zero => exact hL.elim
    | succ D =>
      obtain ⟨⟨b, o, ha, hc⟩, -⟩ := hL.2 0 x (by rw [hkx]; rfl)
      rw [Nat.zero_mul, Nat.add_zero] at hc
      exact ⟨b, o, ha, hc.below HB.out hc.lt⟩
  have hxl : b < w.heap.size := hx0.lt
  rw [hln, hao]
  go_enter Tryz.func59, Tryz.ntmps59
  go_wp2_with fail
  refine (isType_any 45 _).mono ?_
  rintro e w2 ⟨rfl, hb1⟩
  have hw : w.heap.size < (w.alloc (.cells #[.int .i64 45, .string n.text, .string n.more, .int .u64 n.num, .slice (some ⟨b, o, none⟩) 1 n.cap] 25)).heap.size := by simp
  have hcell : ∀ j, (w.alloc (.cells #[.int .i64 45, .string n.text, .string n.more, .int .u64 n.num, .slice (some ⟨b, o, none⟩) 1 n.cap] 25)).cell? ⟨w.heap.size, j, none⟩ = (#[.int .i64 45, .string n.text, .string n.more, .int .u64 n.num, .slice (some ⟨b, o, none⟩) 1 n.cap] : Array Value)[j]? := fun j => World.cell?_alloc_at _ _ _ _ rfl
  have n0 := (hb1.cell (p := ⟨w.heap.size, 0, none⟩) hw).trans (hcell 0)
  have n1 := (hb1.cell (p := ⟨w.heap.size, 1, none⟩) hw).trans (hcell 1)
  have n2 := (hb1.cell (p := ⟨w.heap.size, 2, none⟩) hw).trans (hcell 2)
  have n3 := (hb1.cell (p := ⟨w.heap.size, 3, none⟩) hw).trans (hcell 3)
  have n4 := (hb1.cell (p := ⟨w.heap.size, 4, none⟩) hw).trans (hcell 4)
  have hb2 : Below w.heap.size w w2 := ((Below.refl _ _).alloc (Nat.le_refl _) _).trans (hb1.mono (Nat.le_of_lt hw))
  have HB2 := Lib.hid hb2
  clear hb1 hcell hw hb2
  go_wp2_with fail
  refine (lit_45 _ _ _ _ _ _ x R bd _ (hx0.below HB2.out hxl)).mono ?_
  rintro e w3 ⟨cb, wa, ⟨rfl, hw3, hb3⟩, hcb, hct⟩
  clear n0 n1 n2 n3 n4
  have HW3 := Lib.hid hw3
  clear hw3
  go_wp2_with fail
  go_ret
  have hb2 := HB2.out
  refine litPost_slots HB2.out hb3 HW3.out ⟨_, rfl⟩ (by simp) (fun t ht F c h => ?_)
  · obtain rfl := List.mem_singleton.1 ht
    cases h
    have := hb2.size
    exact node_ref W0 mb bs x bd R _ wa rb hN (HB.out.trans ((HB2.out.trans (hb3.mono hb2.size)).mono HB.out.size)) HM.out.km HM.out.row.1 hct (by have := HM.out.mlt; omega) (by have := HM.out.row.2; omega)

end Go.Proofs.YtcbcdgifakcooaaGreatDoor
