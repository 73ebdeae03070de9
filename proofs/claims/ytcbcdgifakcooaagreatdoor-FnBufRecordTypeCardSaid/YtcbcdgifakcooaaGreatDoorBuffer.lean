/-
  The maker writes a node's table, its slots given. The bytes are at most 2^29.
-/
import Derived.Test.YtcbcdgifakcooaaGreatDoorSlots
namespace Go.Proofs.YtcbcdgifakcooaaGreatDoor
open Go.RowKit
set_option linter.unusedVariables false
set_option linter.unusedSimpArgs false

/-- A node is written, in all worlds that come of the one in which it lay. -/
def NodeW (W0 : World) (bs : Bool) (bd : Nat) (n : Nd) (R : By → Nat → Prop) : Prop :=
  ∀ (mb rb cap : Nat) (O : By) (w : World), Below W0.heap.size W0 w → Mk W0.heap.size w mb rb cap O bs → O.length + bd ≤ 1073000000 → Calls Tryz.prog 20 #[.pointer (some ⟨mb, 0, none⟩), n.val] w (PostW W0.heap.size mb bs O bd R w rb)

theorem node_ref (W0 : World) (mb : Nat) (bs : Bool) (n : Nd) (bd : Nat) (R : By → Nat → Prop) (cb : Nat) (w : World) (rb : Nat) (hN : NodeW W0 bs bd n R) (hb : Below W0.heap.size W0 w) (hm : W0.heap.size ≤ mb) (hr : W0.heap.size ≤ rb) (hc : NdCells w cb 0 n) (h1 : cb ≠ mb) (h2 : cb ≠ rb) :
    RefC W0.heap.size mb bs 199 #[.pointer (some ⟨cb, 0, none⟩)] bd R w rb := by
  refine ⟨fun args w' => by kernel_rfl, fun w1 rb1 cap1 O1 he hm1 hO => ?_⟩
  have hcl : cb < w.heap.size := hc.lt
  have hb1 : Below W0.heap.size W0 w1 := hb.trans (he.below hm hr hb.size)
  have kb := (he.blk hcl h1 h2).1
  obtain ⟨c0, c1, c2, c3, c4⟩ := hc
  rw [← kb] at c0 c1 c2 c3 c4
  show Calls _ _ #[.pointer (some ⟨mb, 0, none⟩), .pointer (some ⟨cb, 0, none⟩)] _ _
  have HM := Lib.hid hm1
  have HB := Lib.hid hb1
  have HNW := Lib.hid hN
  clear hm1 hb1 hN kb
  go_enter Tryz.func199, Tryz.ntmps199
  go_wp2_with fail
  refine (HNW.out mb rb1 cap1 O1 w1 HB.out HM.out hO).mono ?_
  rintro e w2 ⟨X, rb', cap', q, rfl, hm', hx, hl, hq1, hq2, hR⟩
  have HP := Lib.hid (show PostW W0.heap.size mb bs O1 bd R w1 rb1 (.returned (.int .i64 (q : Nat))) w2 from ⟨X, rb', cap', q, rfl, hm', hx, hl, hq1, hq2, hR⟩)
  clear hm' hx hl hq1 hq2 hR
  go_wp2_with fail
  go_ret
  exact HP.out

/-- The slots of a node: of the form P; their row lies behind what their functions have captured. -/
def SlotsC (W0 : World) (bs : Bool) (n : Nd) (P : List Sl → Prop) : Prop :=
  ∀ (mb rb cap : Nat) (O : By) (w : World), Below W0.heap.size W0 w → Mk W0.heap.size w mb rb cap O bs → Calls Tryz.prog 59 #[.pointer (some ⟨mb, 0, none⟩), n.val] w fun e w' => ∃ (v : Value) (sl : List Sl) (wa : World), e = .returned v ∧ P sl ∧ Below w.heap.size w wa ∧ Below wa.heap.size wa w' ∧ w'.ownsRow wa.heap.size 265 4 v sl.length (sl.flatMap Sl.cells) ∧ (∀ t ∈ sl, ∀ F c, t.ref = some (F, c) → RefC W0.heap.size mb bs F c t.bd t.R wa rb)

/-- The slots with the base's. -/
def withBase (bs : Bool) (sl : List Sl) : List Sl := if bs then sl ++ [baseSl] else sl

/-- Slots that a table bears, and what it then tells. -/
structure Fine (bs : Bool) (sl : List Sl) (bd : Nat) (R : By → Nat → Prop) : Prop where
  ok : okPat (patOf (withBase bs sl)) = true
  w4 : ∀ t ∈ sl, t.ref ≠ none → t.wid = 4
  u : ∀ t ∈ sl, t.u < 256 ^ t.wid
  n : sl.length ≤ 900
  bd : 70000 + ((withBase bs sl).map Sl.bd).sum ≤ bd
  r : ∀ B p, TabOf B p (withBase bs sl) → R B p

theorem slotsIn_own {w : World} {B : Nat} {v : Value} {sl : List Sl} (h : w.ownsRow B 265 4 v sl.length (sl.flatMap Sl.cells)) {mb rb : Nat} (h1 : mb < B) (h2 : rb < B) : ∃ sp scap sb, v = .slice sp sl.length scap ∧ SlotsIn w mb rb sp sl sb := by
  rcases h.2 with ⟨hv, h0⟩ | ⟨g, cap', cur, hv, hb, hg, a1, a2, a3, a4⟩
  · have hs : sl = [] := List.eq_nil_of_length_eq_zero h0
    subst hs
    exact ⟨none, 0, 0, hv, fun h => absurd h (by simp), fun i s h => by simp at h⟩
  · refine ⟨some ⟨g, 0, none⟩, cap', g, hv, fun _ => ⟨rfl, (h.lt g (by rw [hv]; rfl)).2, by omega, by omega⟩, fun i s hs j v' hj => ?_⟩
    have hc := h.cells (g := g) (by rw [hv]; rfl) (i * 4 + j) v' (flat_at sl i j s v' hs hj)
    have e : (⟨g, 0, none⟩ : Addr).add (i * 4 + j) = ⟨g, i * 4 + j, none⟩ := by unfold Addr.add; split <;> simp_all
    rw [e] at hc
    exact hc

theorem infoSlot : (Tryz.prog.info? 265).map (fun i => (i.zero, i.size, i.bytes)) = some (some (.agg #[.int .i64 0, .int .i64 0, .int .u64 0, .nilFunc]), 4, 32) := by kernel_rfl

theorem one_cell_slot (s : Sl) : ∀ u ∈ s.cells, u.oneCell' = true := by
  intro u hu
  simp only [Sl.cells, List.mem_cons, List.not_mem_nil, or_false] at hu
  rcases hu with rfl | rfl | rfl | rfl
  · rfl
  · rfl
  · rfl
  · rcases fv_cases s with ⟨-, h⟩ | ⟨F, c, -, h⟩ <;> rw [h] <;> rfl

set_option maxHeartbeats 1000000 in
set_option maxRecDepth 100000 in
theorem node_any (W0 : World) (bs : Bool) (n : Nd) (P : List Sl → Prop) (bd : Nat) (R : By → Nat → Prop) (hk : n.kind ≠ 40) (hS : SlotsC W0 bs n P) (hF : ∀ sl, P sl → Fine bs sl bd R) : NodeW W0 bs bd n R := by
  intro mb rb cap O w hb hm hO
  have HM := Lib.hid hm
  have HB := Lib.hid hb
  have HSC := Lib.hid hS
  have HF := Lib.hid hF
  have hmlt := hm.mlt
  have hrlt := hm.row
  have hval : n.val = .agg #[.int .i64 n.kind, .string n.text, .string n.more, .int .u64 n.num, .slice n.ao n.kids.length n.cap] := rfl
  clear hm hb hS hF
  rw [hval]
  go_enter Tryz.func20, Tryz.ntmps20
  go_upto_region 1 with fail
  have HBA := Lib.hid ((Below.refl w.heap.size w).alloc (Nat.le_refl _) (.cells #[.int .i64 n.kind, .string n.text, .string n.more, .int .u64 n.num, .slice n.ao n.kids.length n.cap] 25))
  have HMA := Lib.hid (HM.out.alloc (.cells #[.int .i64 n.kind, .string n.text, .string n.more, .int .u64 n.num, .slice n.ao n.kids.length n.cap] 25))
  have hcell : ∀ j, (w.alloc (.cells #[.int .i64 n.kind, .string n.text, .string n.more, .int .u64 n.num, .slice n.ao n.kids.length n.cap] 25)).cell? ⟨w.heap.size, j, none⟩ = (#[.int .i64 n.kind, .string n.text, .string n.more, .int .u64 n.num, .slice n.ao n.kids.length n.cap] : Array Value)[j]? := fun j => World.cell?_alloc_at _ _ _ _ rfl
  have hnU : w.heap.size < (w.alloc (.cells #[.int .i64 n.kind, .string n.text, .string n.more, .int .u64 n.num, .slice n.ao n.kids.length n.cap] 25)).heap.size := by simp
  obtain ⟨nb, hnb⟩ : ∃ nb, nb = w.heap.size := ⟨_, rfl⟩
  rw [← hnb] at hcell hnU ⊢
  have hmn : mb < nb := by omega
  have hrn : rb < nb := by omega
  generalize w.alloc (.cells #[.int .i64 n.kind, .string n.text, .string n.more, .int .u64 n.num, .slice n.ao n.kids.length n.cap] 25) = U at *
  have n0 := hcell 0
  have n1 := hcell 1
  have n2 := hcell 2
  have n3 := hcell 3
  have n4 := hcell 4
  have HN0 := Lib.hid n0
  have HNB := Lib.hid hnb
  clear hcell hnb
  go_wp2_with fail
  have HBU := Lib.hid (HB.out.trans (HBA.out.mono HB.out.size))
  refine (HSC.out mb rb cap O U HBU.out HMA.out).mono ?_
  rintro e w2 ⟨v, sl, wa, rfl, hP, hba, hbw, hown, hRs⟩
  have HP := Lib.hid hP
  have HBA2 := Lib.hid hba
  have HBW := Lib.hid hbw
  have HOW := Lib.hid hown
  have HRS := Lib.hid hRs
  have HB2 := Lib.hid (hba.trans (hbw.mono hba.size))
  have HM2 := Lib.hid (HMA.out.below HB2.out)
  have HBW2 := Lib.hid (HBA.out.trans (HB2.out.mono HBA.out.size))
  have c1 := HM2.out.c1
  have k0 : w2.cell? ⟨nb, 0, none⟩ = some (.int .i64 n.kind) := (HB2.out.cell (p := ⟨nb, 0, none⟩) hnU).trans HN0.out
  have hmwa : mb < wa.heap.size := Nat.lt_of_lt_of_le (Nat.lt_trans hmn hnU) hba.size
  have hrwa : rb < wa.heap.size := Nat.lt_of_lt_of_le (Nat.lt_trans hrn hnU) hba.size
  clear hP hba hbw hown hRs n0 n1 n2 n3 n4
  cases bs with
  | false =>
    obtain ⟨sp, scap, sb, rfl, hSI⟩ := slotsIn_own HOW.out hmwa hrwa
    have HSI := Lib.hid hSI
    have HFI := Lib.hid (HF.out sl HP.out)
    clear hSI
    go_wp2_with fail
    refine (table_of W0.heap.size mb rb cap bd sl.length sb scap O false sl sp R w2 w rfl HFI.out.ok HFI.out.w4 HFI.out.u (by have := HFI.out.n; omega) HFI.out.bd hO HSI.out HM2.out (fun t ht F c h => (HRS.out t ht F c h).ext (Ext.of rb HBW.out)) HFI.out.r HBW2.out).mono ?_
    rintro e w3 ⟨X, rb', cap', q, rfl, hm', hx, hl, hq1, hq2, hR⟩
    have HPW := Lib.hid (show PostW W0.heap.size mb false O bd R w rb (.returned (.int .i64 (q : Nat))) w3 from ⟨X, rb', cap', q, rfl, hm', hx, hl, hq1, hq2, hR⟩)
    clear hm' hx hl hq1 hq2 hR
    go_wp2_with fail
    go_ret
    exact HPW.out
  | true =>
    have hk40 : (n.kind != 40) = true := by simpa using hk
    obtain ⟨i0, hi, hiz, his, hib⟩ : ∃ i, Tryz.prog.info? 265 = some i ∧ i.zero = some (.agg #[.int .i64 0, .int .i64 0, .int .u64 0, .nilFunc]) ∧ i.size = 4 ∧ i.bytes = 32 := by
      obtain ⟨i, hi, h⟩ := Option.map_eq_some_iff.1 infoSlot
      simp only [Prod.mk.injEq] at h
      exact ⟨i, hi, h.1, h.2.1, h.2.2⟩
    have hn9 : sl.length ≤ 900 := (HF.out sl HP.out).n
    have hsrc : ∀ j u, baseSl.cells[j]? = some u → (w2.alloc (.cells #[.int .i64 0, .int .i64 4, .int .u64 0, .func (.func 60) #[] #[]] 265)).cell? ((⟨w2.heap.size, 0, none⟩ : Addr).add j) = some u := by
      intro j u hj
      have e : (⟨w2.heap.size, 0, none⟩ : Addr).add j = ⟨w2.heap.size, j, none⟩ := by unfold Addr.add; split <;> simp_all
      rw [e]
      refine (World.cell?_alloc_at _ _ _ _ rfl).trans ?_
      match j, hj with
      | 0, hj => exact hj
      | 1, hj => exact hj
      | 2, hj => exact hj
      | 3, hj => exact hj
      | j + 4, hj => simp [Sl.cells] at hj
    have HSRC := Lib.hid hsrc
    clear hsrc
    go_wp2_with (at_builtin; refine wpList_append_lies _ rfl _ _ 260 rfl wa.heap.size 265 i0 (.agg #[.int .i64 0, .int .i64 0, .int .u64 0, .nilFunc]) 4 32 Tryz.underlying260 hi hiz his hib rfl (by decide) v sl.length _ rfl (HOW.out.alloc _) ⟨w2.heap.size, 0, none⟩ 1 1 baseSl.cells rfl rfl HSRC.out (one_cell_slot baseSl) (by decide) (by unfold maxLen; omega) (by omega) (by have := HBW.out.size; simp; omega) _ rfl ?_; intro g3 cap3 w4 HO4 HG4 HR4 hlt4)
    have hAW : Below wa.heap.size wa w4 := (HBW.out.alloc HBW.out.size _).grown HG4 (by have := HBW.out.size; simp; omega) (fun r hr => (HOW.out.lt r hr).1)
    have hWW : Below w.heap.size w w4 := (HBW2.out.alloc HBW2.out.size _).grown HG4 (by have := HBW2.out.size; simp; omega) (fun r hr => by have := (HOW.out.lt r hr).1; have := HBA.out.size; have := HBA2.out.size; omega)
    have hM4 : Mk W0.heap.size w4 mb rb cap O true := (HMA.out.below HBA2.out).past hAW hmwa hrwa
    have hown4 : w4.ownsRow wa.heap.size 265 4 (.slice (some ⟨g3, 0, none⟩) (sl.length + 1) cap3) (sl ++ [baseSl]).length ((sl ++ [baseSl]).flatMap Sl.cells) := by
      rw [List.flatMap_append, List.length_append]
      simpa using HO4
    obtain ⟨sp, scap, sb, hv4, hSI⟩ := slotsIn_own hown4 hmwa hrwa
    have hl4 : (sl ++ [baseSl]).length = sl.length + 1 := by simp
    rw [hl4] at hv4
    obtain ⟨rfl, rfl⟩ : sp = some ⟨g3, 0, none⟩ ∧ scap = cap3 := by cases hv4; exact ⟨rfl, rfl⟩
    have hfi := HF.out sl HP.out
    have h1 := hfi.ok
    have h2 := hfi.bd
    have h3 := hfi.r
    simp only [withBase, if_true] at h1 h2 h3
    refine (table_of W0.heap.size mb rb cap bd (sl.length + 1) sb scap O true (sl ++ [baseSl]) _ R w4 w hl4.symm h1 (fun t ht => ?_) (fun t ht => ?_) (by rw [hl4]; omega) h2 hO hSI hM4 (fun t ht F c h => ?_) h3 hWW).mono ?_
    · rcases List.mem_append.1 ht with ht | ht
      · exact hfi.w4 t ht
      · obtain rfl := List.mem_singleton.1 ht
        intro _
        rfl
    · rcases List.mem_append.1 ht with ht | ht
      · exact hfi.u t ht
      · obtain rfl := List.mem_singleton.1 ht
        decide
    · rcases List.mem_append.1 ht with ht | ht
      · exact (HRS.out t ht F c h).ext (Ext.of rb hAW)
      · obtain rfl := List.mem_singleton.1 ht
        cases h
        exact base_ref _ _ _ _ _
    · rintro e w5 ⟨X, rb', cap', q, rfl, hm', hx, hl, hq1, hq2, hR⟩
      have HPW := Lib.hid (show PostW W0.heap.size mb true O bd R w rb (.returned (.int .i64 (q : Nat))) w5 from ⟨X, rb', cap', q, rfl, hm', hx, hl, hq1, hq2, hR⟩)
      clear hm' hx hl hq1 hq2 hR
      go_wp2_with fail
      go_ret
      exact HPW.out

end Go.Proofs.YtcbcdgifakcooaaGreatDoor

namespace Go.Proofs.YtcbcdgifakcooaaGreatDoor
open Go.RowKit
set_option linter.unusedVariables false
set_option linter.unusedSimpArgs false

theorem make_four (W : World) : Sem.run Tryz.prog (Instr.makeSlice 30 (.int .i64 4) (.int .i64 4)) W = .ok (.slice (some ⟨W.heap.size, 0, none⟩) 4 4) (W.alloc (.cells #[.int .u8 0, .int .u8 0, .int .u8 0, .int .u8 0] 5)) := by
  obtain ⟨i, hi, h1, h2, h3⟩ := info_parts' infoByte'
  have hr := run_make (P := Tryz.prog) W 30 5 i (.int .u8 0) Tryz.underlying30 hi h1 .i64 .i64 4 4 (by omega) (by omega) (by rw [h3]; omega) (by omega)
  have e : madeCells (Value.int .u8 0).cells (Int.toNat 4 * 1) = #[.int .u8 0, .int .u8 0, .int .u8 0, .int .u8 0] := by kernel_rfl
  rw [hr, h2, e]
  rfl

theorem mk_start (W : World) (K : Nat) (hK : K ≤ W.heap.size) (T : TypeId) (bs : Bool) : Mk K ((W.alloc (.cells #[.int .u8 0, .int .u8 0, .int .u8 0, .int .u8 0] 5)).alloc (.cells #[.slice (some ⟨W.heap.size, 0, none⟩) 4 4, .bool bs] T)) (W.heap.size + 1) W.heap.size 4 [0, 0, 0, 0] bs := by
  have hsz : (W.alloc (.cells #[.int .u8 0, .int .u8 0, .int .u8 0, .int .u8 0] 5)).heap.size = W.heap.size + 1 := by simp
  have hc : ∀ j, ((W.alloc (.cells #[.int .u8 0, .int .u8 0, .int .u8 0, .int .u8 0] 5)).alloc (.cells #[.slice (some ⟨W.heap.size, 0, none⟩) 4 4, .bool bs] T)).cell? ⟨W.heap.size + 1, j, none⟩ = (#[.slice (some ⟨W.heap.size, 0, none⟩) 4 4, .bool bs] : Array Value)[j]? := fun j => World.cell?_alloc_at _ _ _ _ hsz.symm
  refine ⟨hc 0, hc 1, fun o => World.frozen?_alloc_at _ _ _ _ hsz.symm, by omega, by omega, rfl, .inr ⟨W.heap.size, 4, #[.int .u8 0, .int .u8 0, .int .u8 0, .int .u8 0], rfl, hK, ?_, by decide, by decide, rfl, rfl⟩⟩
  rw [Below.heap_alloc _ _ _ (by rw [hsz]; omega)]
  exact heap_alloc_new W _

set_option maxHeartbeats 1000000 in
set_option maxRecDepth 100000 in
theorem buffer_any (bs : Bool) (bd : Nat) (n : Nd) (R : By → Nat → Prop) (hbd : bd ≤ 1072000000) (w : World) (hN : NodeW w bs bd n R) :
    Calls Tryz.prog 9 #[n.val, .bool bs] w fun e w' => ∃ (B : By) (rb cap p : Nat), e = .returned (.slice (some ⟨rb, 0, none⟩) B.length cap) ∧ w'.ownsRow w.heap.size 5 1 (.slice (some ⟨rb, 0, none⟩) B.length cap) B.length (bytesV B) ∧ Below w.heap.size w w' ∧ 4 ≤ B.length ∧ B.length ≤ 1073000000 ∧ leAt B 0 4 = p ∧ p < B.length ∧ R B p := by
  have HNW := Lib.hid hN
  clear hN
  have hmk := make_four
  have hval : n.val = .agg #[.int .i64 n.kind, .string n.text, .string n.more, .int .u64 n.num, .slice n.ao n.kids.length n.cap] := rfl
  rw [hval]
  go_enter Tryz.func9, Tryz.ntmps9
  go_upto_region 2 with fail
  have hM0 := mk_start (w.alloc (.cells #[.int .i64 n.kind, .string n.text, .string n.more, .int .u64 n.num, .slice n.ao n.kids.length n.cap] 25)) w.heap.size (by simp) 55 bs
  have hB0 : Below w.heap.size w (((w.alloc (.cells #[.int .i64 n.kind, .string n.text, .string n.more, .int .u64 n.num, .slice n.ao n.kids.length n.cap] 25)).alloc (.cells #[.int .u8 0, .int .u8 0, .int .u8 0, .int .u8 0] 5)).alloc (.cells #[.slice (some ⟨(w.alloc (.cells #[.int .i64 n.kind, .string n.text, .string n.more, .int .u64 n.num, .slice n.ao n.kids.length n.cap] 25)).heap.size, 0, none⟩) 4 4, .bool bs] 55)) :=
    (((Below.refl _ _).alloc (Nat.le_refl _) _).alloc (by simp) _).alloc (by simp; omega) _
  have hcell : ∀ j, (((w.alloc (.cells #[.int .i64 n.kind, .string n.text, .string n.more, .int .u64 n.num, .slice n.ao n.kids.length n.cap] 25)).alloc (.cells #[.int .u8 0, .int .u8 0, .int .u8 0, .int .u8 0] 5)).alloc (.cells #[.slice (some ⟨(w.alloc (.cells #[.int .i64 n.kind, .string n.text, .string n.more, .int .u64 n.num, .slice n.ao n.kids.length n.cap] 25)).heap.size, 0, none⟩) 4 4, .bool bs] 55)).cell? ⟨w.heap.size, j, none⟩ = (#[.int .i64 n.kind, .string n.text, .string n.more, .int .u64 n.num, .slice n.ao n.kids.length n.cap] : Array Value)[j]? := fun j => ((World.cell?_of_block (Below.heap_alloc _ _ _ (by simp; omega))).trans (World.cell?_of_block (Below.heap_alloc _ _ _ (by simp)))).trans (World.cell?_alloc_at _ _ _ _ rfl)
  have hsz : (w.alloc (.cells #[.int .i64 n.kind, .string n.text, .string n.more, .int .u64 n.num, .slice n.ao n.kids.length n.cap] 25)).heap.size = w.heap.size + 1 := by simp
  rw [hsz] at hM0 hB0 hcell
  generalize ((w.alloc (.cells #[.int .i64 n.kind, .string n.text, .string n.more, .int .u64 n.num, .slice n.ao n.kids.length n.cap] 25)).alloc (.cells #[.int .u8 0, .int .u8 0, .int .u8 0, .int .u8 0] 5)).alloc (.cells #[.slice (some ⟨w.heap.size + 1, 0, none⟩) 4 4, .bool bs] 55) = V at *
  obtain ⟨mb, hmb⟩ : ∃ mb, mb = w.heap.size + 1 + 1 := ⟨_, rfl⟩
  obtain ⟨rb, hrb⟩ : ∃ rb, rb = w.heap.size + 1 := ⟨_, rfl⟩
  rw [← hrb] at hM0 hmb ⊢
  rw [← hmb] at hM0 ⊢
  have HM0 := Lib.hid hM0
  have HB0 := Lib.hid hB0
  have n0 := hcell 0
  have n1 := hcell 1
  have n2 := hcell 2
  have n3 := hcell 3
  have n4 := hcell 4
  clear hM0 hB0 hcell hmk hmb hrb hsz
  go_wp2_with fail
  refine (HNW.out mb rb 4 [0, 0, 0, 0] V HB0.out HM0.out (by simp; omega)).mono ?_
  rintro e w1 ⟨X, rb1, cap1, q, rfl, hm1, hx1, hl, hq1, hq2, hR⟩
  have hX : (([0, 0, 0, 0] : By) ++ X).length = 4 + X.length := by simp; omega
  obtain ⟨OA, hOA⟩ : ∃ OA, OA = ([0, 0, 0, 0] : By) ++ X := ⟨_, rfl⟩
  rw [← hOA] at hm1 hX hR
  have hq1 : 4 ≤ q := hq1
  have hq2 : q < 4 + X.length := hq2
  have HM1 := Lib.hid hm1
  have HX1 := Lib.hid hx1
  have HR := Lib.hid hR
  have hc1 := hm1.c0
  have hf1 := hm1.fz 0
  have hla : (OA.length : Int) ≤ 1072000004 := by omega
  have hwr : IntKind.u64.wrap (q : Int) = (q : Int) := by rw [IntKind.wrap_u64]; omega
  have HQ1 := Lib.hid hq1
  have HQ2 := Lib.hid hq2
  have HXL := Lib.hid hX
  have HLL := Lib.hid hl
  clear hm1 hx1 hR hOA n0 n1 n2 n3 n4 hX hq1 hq2 hl
  go_upto_region 3 with fail
  have HMD := Lib.hid HM1.out.drew
  go_region_law (first
    | (rw [if_pos (by rfl)]; go_simp; go_at_call 21; refine (little_int q 4 _ _ (by decide) (by have := HQ2.out; have := HXL.out; omega) (by rfl) (by rfl) _).mono ?_; rintro e w3 ⟨vo, vc, rfl, HL3, HBB⟩; have HM3 := Lib.hid (HMD.out.below HBB); have HE3 := Lib.hid HBB; have HW3 := Lib.hid HL3; have hc3 := HM3.out.c0; clear HL3; dsimp only)
    | (refine step_copy_mk rfl _ _ 30 30 rfl Tryz.underlying30 infoByteS HM3.out (Lib.leBytes 4 q) 4 0 OA.length cap1 _ _ rfl rfl (Lib.leBytes_length _ _) (by decide) HW3.out (by have := HXL.out; omega) (by have := HXL.out; omega) ?_; intro w4 hmc hec hsc; have HMC4 := Lib.hid hmc; have HEC4 := Lib.hid hec; clear hmc hec))
  all_goals
    have hfit : 0 + (Lib.leBytes 4 q).length ≤ OA.length := by rw [Lib.leBytes_length]; have := HXL.out; omega
    have hpl := put_length hfit
    obtain ⟨OB, hOB⟩ : ∃ OB, OB = put OA 0 (Lib.leBytes 4 q) := ⟨_, rfl⟩
    rw [← hOB] at hpl
    have HMB : Hid (Mk w.heap.size w4 mb rb1 cap1 OB bs) := by rw [hOB]; exact HMC4
    have HXB := Lib.hid (((HX1.out.trans (Ext.of rb1 ((Below.refl _ _).drew.trans HE3.out))).trans HEC4.out))
    have hat : leAt OB 0 4 = q := by
      rw [hOB]
      have e := leAt_put_same hfit
      rw [Lib.leBytes_length] at e
      rw [e, Lib.leNat_leBytes _ _ (by have := HQ2.out; have := HXL.out; omega)]
    have hag : Agree 4 OA OB := by rw [hOB]; exact Agree.put hfit (by rw [Lib.leBytes_length]; omega)
    have HAT := Lib.hid hat
    have HAG := Lib.hid hag
    have HPL := Lib.hid hpl
    clear hOB hat hag hpl hfit HMC4
    go_wp2_with fail
    refine (pad_int w.heap.size mb rb1 cap1 8 0 _ _ OB bs (.inl rfl) (by decide) (by have := HPL.out; omega) rfl rfl w4 HMB.out).mono ?_
    rintro e w5 ⟨rfl, z, rb5, cap5, hz, hz8, hm5, he5⟩
    have HM5 := Lib.hid hm5
    have HE5 := Lib.hid (HXB.out.trans he5)
    have hc5 := hm5.c0
    have hl5 : (OB ++ List.replicate z (0 : UInt8)).length = OB.length + z := by simp
    obtain ⟨B, hB⟩ : ∃ B, B = OB ++ List.replicate z (0 : UInt8) := ⟨_, rfl⟩
    rw [← hB] at HM5 hc5 hl5
    have HBB2 := Lib.hid hB
    have HL5 := Lib.hid hl5
    clear hm5 he5 hB hl5
    go_wp2_with fail
    go_ret
    have e1 := HPL.out
    have e2 := HXL.out
    have e3 := HL5.out
    have e4 := HLL.out
    have hmk := HM0.out.mlt
    refine ⟨B, rb5, cap5, q, rfl, HM5.out.own, HB0.out.trans (HE5.out.below HM0.out.km HM0.out.row.1 HB0.out.size), by omega, by omega, ?_, by have := HQ2.out; omega, HR.out B ?_⟩
    · rw [HBB2.out, leAt_agree (Agree.append 0 OB _) (Nat.le_refl _) (by omega)]
      exact HAT.out
    · refine Agree.trans HAG.out ?_ (by omega)
      rw [HBB2.out]
      exact Agree.append 4 OB _

end Go.Proofs.YtcbcdgifakcooaaGreatDoor
