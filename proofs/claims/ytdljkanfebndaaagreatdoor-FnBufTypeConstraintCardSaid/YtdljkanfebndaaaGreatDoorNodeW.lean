/-
  The maker writes a node's table, its slots given. The bytes are at most 2^29.
-/
import Derived.Test.YtdljkanfebndaaaGreatDoorSlots
namespace Go.Proofs.YtdljkanfebndaaaGreatDoor
open Go.RowKit
set_option linter.unusedVariables false
set_option linter.unusedSimpArgs false

/-- A node is written, in all worlds that come of the one in which it lay. -/
def NodeW (W0 : World) (bs : Bool) (bd : Nat) (n : Nd) (R : By → Nat → Prop) : Prop :=
  ∀ (mb rb cap : Nat) (O : By) (w : World), Below W0.heap.size W0 w → Mk W0.heap.size w mb rb cap O bs → O.length + bd ≤ 1073000000 → Calls Tryz.prog 30 #[.pointer (some ⟨mb, 0, none⟩), n.val] w (PostW W0.heap.size mb bs O bd R w rb)

theorem node_ref (W0 : World) (mb : Nat) (bs : Bool) (n : Nd) (bd : Nat) (R : By → Nat → Prop) (cb : Nat) (w : World) (rb : Nat) (hN : NodeW W0 bs bd n R) (hb : Below W0.heap.size W0 w) (hm : W0.heap.size ≤ mb) (hr : W0.heap.size ≤ rb) (hc : NdCells w cb 0 n) (h1 : cb ≠ mb) (h2 : cb ≠ rb) :
    RefC W0.heap.size mb bs 204 #[.pointer (some ⟨cb, 0, none⟩)] bd R w rb := by
  refine ⟨fun args w' => by kernel_rfl, fun w1 rb1 cap1 O1 he hm1 hO => ?_⟩
  have hcl : cb < w.heap.size := hc.lt
  have hb1 : Below W0.heap.size W0 w1 := hb.trans (he.below hm hr hb.size)
  have kb := (he.blk hcl h1 h2).1
  obtain ⟨c0, c1, c2, c3, c4⟩ := hc
  rw [← kb] at c0 c1 c2 c3 c4
  show Calls _ _ #[.pointer (some ⟨mb, 0, none⟩), .pointer (some ⟨cb, 0, none⟩)] _ _
  have HM := Lib.hid hm1
  have HB := Lib.hid hb1
  have HNW := Lib.hid hN
  clear hm1 hb1 hN kb
  go_enter Tryz.func204, Tryz.ntmps204
  go_wp2_with fail
  refine (HNW.out mb rb1 cap1 O1 w1 HB.out HM.out hO).mono ?_
  rintro e w2 ⟨X, rb', cap', q, rfl, hm', hx, hl, hq1, hq2, hR⟩
  have HP := Lib.hid (show PostW W0.heap.size mb bs O1 bd R w1 rb1 (.returned (.int .i64 (q : Nat))) w2 from ⟨X, rb', cap', q, rfl, hm', hx, hl, hq1, hq2, hR⟩)
  clear hm' hx hl hq1 hq2 hR
  go_wp2_with fail
  go_ret
  exact HP.out

/-- The slots of a node: of the form P; their row lies behind what their functions have captured. -/
def SlotsC (W0 : World) (bs : Bool) (n : Nd) (P : List Sl → Prop) : Prop :=
  ∀ (mb rb cap : Nat) (O : By) (w : World), Below W0.heap.size W0 w → Mk W0.heap.size w mb rb cap O bs → Calls Tryz.prog 75 #[.pointer (some ⟨mb, 0, none⟩), n.val] w fun e w' => ∃ (v : Value) (sl : List Sl) (wa : World), e = .returned v ∧ P sl ∧ Below w.heap.size w wa ∧ Below wa.heap.size wa w' ∧ w'.ownsRow wa.heap.size 271 4 v sl.length (sl.flatMap Sl.cells) ∧ (∀ t ∈ sl, ∀ F c, t.ref = some (F, c) → RefC W0.heap.size mb bs F c t.bd t.R wa rb)

/-- The slots with the base's. -/
def withBase (bs : Bool) (sl : List Sl) : List Sl := if bs then sl ++ [baseSl] else sl

/-- Slots that a table bears, and what it then tells. -/
structure Fine (bs : Bool) (sl : List Sl) (bd : Nat) (R : By → Nat → Prop) : Prop where
  ok : okPat (patOf (withBase bs sl)) = true
  w4 : ∀ t ∈ sl, t.ref ≠ none → t.wid = 4
  u : ∀ t ∈ sl, t.u < 256 ^ t.wid
  n : sl.length ≤ 900
  bd : 70000 + ((withBase bs sl).map Sl.bd).sum ≤ bd
  r : ∀ B p, TabOf B p (withBase bs sl) → R B p

theorem slotsIn_own {w : World} {B : Nat} {v : Value} {sl : List Sl} (h : w.ownsRow B 271 4 v sl.length (sl.flatMap Sl.cells)) {mb rb : Nat} (h1 : mb < B) (h2 : rb < B) : ∃ sp scap sb, v = .slice sp sl.length scap ∧ SlotsIn w mb rb sp sl sb := by
  rcases h.2 with ⟨hv, h0⟩ | ⟨g, cap', cur, hv, hb, hg, a1, a2, a3, a4⟩
  · have hs : sl = [] := List.eq_nil_of_length_eq_zero h0
    subst hs
    exact ⟨none, 0, 0, hv, fun h => absurd h (by simp), fun i s h => by simp at h⟩
  · refine ⟨some ⟨g, 0, none⟩, cap', g, hv, fun _ => ⟨rfl, (h.lt g (by rw [hv]; rfl)).2, by omega, by omega⟩, fun i s hs j v' hj => ?_⟩
    have hc := h.cells (g := g) (by rw [hv]; rfl) (i * 4 + j) v' (flat_at sl i j s v' hs hj)
    have e : (⟨g, 0, none⟩ : Addr).add (i * 4 + j) = ⟨g, i * 4 + j, none⟩ := by unfold Addr.add; split <;> simp_all
    rw [e] at hc
    exact hc

theorem infoSlot : (Tryz.prog.info? 271).map (fun i => (i.zero, i.size, i.bytes)) = some (some (.agg #[.int .i64 0, .int .i64 0, .int .u64 0, .nilFunc]), 4, 32) := by kernel_rfl

theorem one_cell_slot (s : Sl) : ∀ u ∈ s.cells, u.oneCell' = true := by
  intro u hu
  simp only [Sl.cells, List.mem_cons, List.not_mem_nil, or_false] at hu
  rcases hu with rfl | rfl | rfl | rfl
  · rfl
  · rfl
  · rfl
  · rcases fv_cases s with ⟨-, h⟩ | ⟨F, c, -, h⟩ <;> rw [h] <;> rfl

set_option maxHeartbeats 1000000 in
set_option maxRecDepth 100000 in
theorem node_any (W0 : World) (bs : Bool) (n : Nd) (P : List Sl → Prop) (bd : Nat) (R : By → Nat → Prop) (hk : n.kind ≠ 40) (hS : SlotsC W0 bs n P) (hF : ∀ sl, P sl → Fine bs sl bd R) : NodeW W0 bs bd n R := by
  intro mb rb cap O w hb hm hO
  have HM := Lib.hid hm
  have HB := Lib.hid hb
  have HSC := Lib.hid hS
  have HF := Lib.hid hF
  have hmlt := hm.mlt
  have hrlt := hm.row
  have hval : n.val = .agg #[.int .i64 n.kind, .string n.text, .string n.more, .int .u64 n.num, .slice n.ao n.kids.length n.cap] := rfl
  clear hm hb hS hF
  rw [hval]
  go_enter Tryz.func30, Tryz.ntmps30
  go_upto_region 1 with fail
  have HBA := Lib.hid ((Below.refl w.heap.size w).alloc (Nat.le_refl _) (.cells #[.int .i64 n.kind, .string n.text, .string n.more, .int .u64 n.num, .slice n.ao n.kids.length n.cap] 25))
  have HMA := Lib.hid (HM.out.alloc (.cells #[.int .i64 n.kind, .string n.text, .string n.more, .int .u64 n.num, .slice n.ao n.kids.length n.cap] 25))
  have hcell : ∀ j, (w.alloc (.cells #[.int .i64 n.kind, .string n.text, .string n.more, .int .u64 n.num, .slice n.ao n.kids.length n.cap] 25)).cell? ⟨w.heap.size, j, none⟩ = (#[.int .i64 n.kind, .string n.text, .string n.more, .int .u64 n.num, .slice n.ao n.kids.length n.cap] : Array Value)[j]? := fun j => World.cell?_alloc_at _ _ _ _ rfl
  have hnU : w.heap.size < (w.alloc (.cells #[.int .i64 n.kind, .string n.text, .string n.more, .int .u64 n.num, .slice n.ao n.kids.length n.cap] 25)).heap.size := by simp
  obtain ⟨nb, hnb⟩ : ∃ nb, nb = w.heap.size := ⟨_, rfl⟩
  rw [← hnb] at hcell hnU ⊢
  have hmn : mb < nb := by omega
  have hrn : rb < nb := by omega
  generalize w.alloc (.cells #[.int .i64 n.kind, .string n.text, .string n.more, .int .u64 n.num, .slice n.ao n.kids.length n.cap] 25) = U at *
  have n0 := hcell 0
  have n1 := hcell 1
  have n2 := hcell 2
  have n3 := hcell 3
  have n4 := hcell 4
  have HN0 := Lib.hid n0
  have HNB := Lib.hid hnb
  clear hcell hnb
  go_wp2_with fail
  have HBU := Lib.hid (HB.out.trans (HBA.out.mono HB.out.size))
  refine (HSC.out mb rb cap O U HBU.out HMA.out).mono ?_
  rintro e w2 ⟨v, sl, wa, rfl, hP, hba, hbw, hown, hRs⟩
  have HP := Lib.hid hP
  have HBA2 := Lib.hid hba
  have HBW := Lib.hid hbw
  have HOW := Lib.hid hown
  have HRS := Lib.hid hRs
  have HB2 := Lib.hid (hba.trans (hbw.mono hba.size))
  have HM2 := Lib.hid (HMA.out.below HB2.out)
  have HBW2 := Lib.hid (HBA.out.trans (HB2.out.mono HBA.out.size))
  have c1 := HM2.out.c1
  have k0 : w2.cell? ⟨nb, 0, none⟩ = some (.int .i64 n.kind) := (HB2.out.cell (p := ⟨nb, 0, none⟩) hnU).trans HN0.out
  have hmwa : mb < wa.heap.size := Nat.lt_of_lt_of_le (Nat.lt_trans hmn hnU) hba.size
  have hrwa : rb < wa.heap.size := Nat.lt_of_lt_of_le (Nat.lt_trans hrn hnU) hba.size
  clear hP hba hbw hown hRs n0 n1 n2 n3 n4
  cases bs with
  | false =>
    obtain ⟨sp, scap, sb, rfl, hSI⟩ := slotsIn_own HOW.out hmwa hrwa
    have HSI := Lib.hid hSI
    have HFI := Lib.hid (HF.out sl HP.out)
    clear hSI
    go_wp2_with fail
    refine (table_of W0.heap.size mb rb cap bd sl.length sb scap O false sl sp R w2 w rfl HFI.out.ok HFI.out.w4 HFI.out.u (by have := HFI.out.n; omega) HFI.out.bd hO HSI.out HM2.out (fun t ht F c h => (HRS.out t ht F c h).ext (Ext.of rb HBW.out)) HFI.out.r HBW2.out).mono ?_
    rintro e w3 ⟨X, rb', cap', q, rfl, hm', hx, hl, hq1, hq2, hR⟩
    have HPW := Lib.hid (show PostW W0.heap.size mb false O bd R w rb (.returned (.int .i64 (q : Nat))) w3 from ⟨X, rb', cap', q, rfl, hm', hx, hl, hq1, hq2, hR⟩)
    clear hm' hx hl hq1 hq2 hR
    go_wp2_with fail
    go_ret
    exact HPW.out
  | true =>
    have hk40 : (n.kind != 40) = true := by simpa using hk
    obtain ⟨i0, hi, hiz, his, hib⟩ : ∃ i, Tryz.prog.info? 271 = some i ∧ i.zero = some (.agg #[.int .i64 0, .int .i64 0, .int .u64 0, .nilFunc]) ∧ i.size = 4 ∧ i.bytes = 32 := by
      obtain ⟨i, hi, h⟩ := Option.map_eq_some_iff.1 infoSlot
      simp only [Prod.mk.injEq] at h
      exact ⟨i, hi, h.1, h.2.1, h.2.2⟩
    have hn9 : sl.length ≤ 900 := (HF.out sl HP.out).n
    have hsrc : ∀ j u, baseSl.cells[j]? = some u → (w2.alloc (.cells #[.int .i64 0, .int .i64 4, .int .u64 0, .func (.func 76) #[] #[]] 271)).cell? ((⟨w2.heap.size, 0, none⟩ : Addr).add j) = some u := by
      intro j u hj
      have e : (⟨w2.heap.size, 0, none⟩ : Addr).add j = ⟨w2.heap.size, j, none⟩ := by unfold Addr.add; split <;> simp_all
      rw [e]
      refine (World.cell?_alloc_at _ _ _ _ rfl).trans ?_
      match j, hj with
      | 0, hj => exact hj
      | 1, hj => exact hj
      | 2, hj => exact hj
      | 3, hj => exact hj
      | j + 4, hj => simp [Sl.cells] at hj
    have HSRC := Lib.hid hsrc
    clear hsrc
    go_wp2_with (at_builtin; refine wpList_append_lies _ rfl _ _ 266 rfl wa.heap.size 271 i0 (.agg #[.int .i64 0, .int .i64 0, .int .u64 0, .nilFunc]) 4 32 Tryz.underlying266 hi hiz his hib rfl (by decide) v sl.length _ rfl (HOW.out.alloc _) ⟨w2.heap.size, 0, none⟩ 1 1 baseSl.cells rfl rfl HSRC.out (one_cell_slot baseSl) (by decide) (by unfold maxLen; omega) (by omega) (by have := HBW.out.size; simp; omega) _ rfl ?_; intro g3 cap3 w4 HO4 HG4 HR4 hlt4)
    have hAW : Below wa.heap.size wa w4 := (HBW.out.alloc HBW.out.size _).grown HG4 (by have := HBW.out.size; simp; omega) (fun r hr => (HOW.out.lt r hr).1)
    have hWW : Below w.heap.size w w4 := (HBW2.out.alloc HBW2.out.size _).grown HG4 (by have := HBW2.out.size; simp; omega) (fun r hr => by have := (HOW.out.lt r hr).1; have := HBA.out.size; have := HBA2.out.size; omega)
    have hM4 : Mk W0.heap.size w4 mb rb cap O true := (HMA.out.below HBA2.out).past hAW hmwa hrwa
    have hown4 : w4.ownsRow wa.heap.size 271 4 (.slice (some ⟨g3, 0, none⟩) (sl.length + 1) cap3) (sl ++ [baseSl]).length ((sl ++ [baseSl]).flatMap Sl.cells) := by
      rw [List.flatMap_append, List.length_append]
      simpa using HO4
    obtain ⟨sp, scap, sb, hv4, hSI⟩ := slotsIn_own hown4 hmwa hrwa
    have hl4 : (sl ++ [baseSl]).length = sl.length + 1 := by simp
    rw [hl4] at hv4
    obtain ⟨rfl, rfl⟩ : sp = some ⟨g3, 0, none⟩ ∧ scap = cap3 := by cases hv4; exact ⟨rfl, rfl⟩
    have hfi := HF.out sl HP.out
    have h1 := hfi.ok
    have h2 := hfi.bd
    have h3 := hfi.r
    simp only [withBase, if_true] at h1 h2 h3
    refine (table_of W0.heap.size mb rb cap bd (sl.length + 1) sb scap O true (sl ++ [baseSl]) _ R w4 w hl4.symm h1 (fun t ht => ?_) (fun t ht => ?_) (by rw [hl4]; omega) h2 hO hSI hM4 (fun t ht F c h => ?_) h3 hWW).mono ?_
    · rcases List.mem_append.1 ht with ht | ht
      · exact hfi.w4 t ht
      · obtain rfl := List.mem_singleton.1 ht
        intro _
        rfl
    · rcases List.mem_append.1 ht with ht | ht
      · exact hfi.u t ht
      · obtain rfl := List.mem_singleton.1 ht
        decide
    · rcases List.mem_append.1 ht with ht | ht
      · exact (HRS.out t ht F c h).ext (Ext.of rb hAW)
      · obtain rfl := List.mem_singleton.1 ht
        cases h
        exact base_ref _ _ _ _ _
    · rintro e w5 ⟨X, rb', cap', q, rfl, hm', hx, hl, hq1, hq2, hR⟩
      have HPW := Lib.hid (show PostW W0.heap.size mb true O bd R w rb (.returned (.int .i64 (q : Nat))) w5 from ⟨X, rb', cap', q, rfl, hm', hx, hl, hq1, hq2, hR⟩)
      clear hm' hx hl hq1 hq2 hR
      go_wp2_with fail
      go_ret
      exact HPW.out

end Go.Proofs.YtdljkanfebndaaaGreatDoor
