/-
  The slots of a type constraint. No conditions.
-/
import Derived.Test.YtdljkanfebndaaaGreatDoorSlK
import Derived.Test.YtdljkanfebndaaaGreatDoorVecN
namespace Go.Proofs.YtdljkanfebndaaaGreatDoor
open Go.RowKit
set_option linter.unusedVariables false
set_option linter.unusedSimpArgs false

set_option maxRecDepth 100000 in
theorem lit_53 (t m : ByteArray) (u : Int) (b o cap k : Nat) (x : Nd) (R : By → Nat → Prop) (bd : Nat) (R2 : By → Nat → Prop) (bd2 : Nat) (w : World) (hx : NdCells w b o x) (hk : k + 1 ≤ cap) :
    Calls Tryz.prog 134 #[.agg #[.int .i64 53, .string t, .string m, .int .u64 u, .slice (some ⟨b, o, none⟩) (k + 1 : Nat) cap]] w fun e w' => ∃ (cb cb2 o2 cap2 : Nat) (wa : World), LitPost w [⟨1, 4, 0, some (204, #[.pointer (some ⟨cb, 0, none⟩)]), R, bd⟩, ⟨2, 4, 0, some (206, #[.pointer (some ⟨cb2, 0, none⟩)]), R2, bd2⟩] wa e w' ∧ w.heap.size ≤ cb ∧ w.heap.size ≤ cb2 ∧ NdCells wa cb 0 x ∧ wa.cell? ⟨cb2, 0, none⟩ = some (.slice (some ⟨b, o2, none⟩) k cap2) ∧ (k ≠ 0 → o2 = o + 5) := by
  have hb : b < w.heap.size := hx.lt
  obtain ⟨c0, c1, c2, c3, c4⟩ := hx
  go_enter Tryz.func134, Tryz.ntmps134
  go_upto_region 18 with fail
  have HB := Lib.hid ((Below.refl w.heap.size w).alloc (Nat.le_refl _) (.cells #[.int .i64 53, .string t, .string m, .int .u64 u, .slice (some ⟨b, o, none⟩) (k + 1 : Nat) cap] 25))
  have hsz : w.heap.size < (w.alloc (.cells #[.int .i64 53, .string t, .string m, .int .u64 u, .slice (some ⟨b, o, none⟩) (k + 1 : Nat) cap] 25)).heap.size := by simp
  have n4 : (w.alloc (.cells #[.int .i64 53, .string t, .string m, .int .u64 u, .slice (some ⟨b, o, none⟩) (k + 1 : Nat) cap] 25)).cell? ⟨w.heap.size, 4, none⟩ = some (.slice (some ⟨b, o, none⟩) (k + 1 : Nat) cap) := World.cell?_alloc_at _ _ _ _ rfl
  have kb := fun j => World.cell?_of_block (a := ⟨b, j, none⟩) (Below.heap_alloc w (.cells #[.int .i64 53, .string t, .string m, .int .u64 u, .slice (some ⟨b, o, none⟩) (k + 1 : Nat) cap] 25) b hb)
  rw [← kb] at c0 c1 c2 c3 c4
  obtain ⟨nb, hnb⟩ : ∃ nb, nb = w.heap.size := ⟨_, rfl⟩
  have hbV : b < (w.alloc (.cells #[.int .i64 53, .string t, .string m, .int .u64 u, .slice (some ⟨b, o, none⟩) (k + 1 : Nat) cap] 25)).heap.size := by omega
  rw [← hnb] at hsz n4 ⊢
  generalize w.alloc (.cells #[.int .i64 53, .string t, .string m, .int .u64 u, .slice (some ⟨b, o, none⟩) (k + 1 : Nat) cap] 25) = V at *
  have HNB := Lib.hid hnb
  clear kb hnb
  have hkI : (1 : Int) ≤ ((k + 1 : Nat) : Int) := by omega
  by_cases hc1 : cap = 1
  · subst hc1
    obtain rfl : k = 0 := by omega
    go_region_held3 (fun w' => (w'.cell? ⟨nb, 4, none⟩ = some (.slice (some ⟨b, o, none⟩) 1 1) ∧ w'.cell? ⟨b, o, none⟩ = some (.int .i64 x.kind) ∧ w'.cell? ⟨b, o + 1, none⟩ = some (.string x.text) ∧ w'.cell? ⟨b, o + 2, none⟩ = some (.string x.more) ∧ w'.cell? ⟨b, o + 3, none⟩ = some (.int .u64 x.num) ∧ w'.cell? ⟨b, o + 4, none⟩ = some (.slice x.ao x.kids.length x.cap))) (go_keep) (first | (go_at_call 177; show Calls _ _ #[_, x.val] _ _; refine (nodeAt_any 1 x _).mono ?_; rintro e c0w ⟨cb, rfl, hcb, hct, hb0⟩; have hz0 : V.heap.size ≤ c0w.heap.size := (by have h := hb0.size; first | exact h | (simp at h; omega)); obtain ⟨ka0, -⟩ := bblk hb0 (b := nb) (by first | omega | (simp; omega)); obtain ⟨kb0, -⟩ := bblk hb0 (b := b) (by first | omega | (simp; omega))) | (go_at_call 180; refine (listAt_any 2 _ _ _ _).mono ?_; rintro e c1w ⟨cb2, rfl, hcb2, hct2, hb1⟩; obtain ⟨ka1, -⟩ := bblk hb1 (b := nb) (by first | omega | (simp; omega)); obtain ⟨kb1, -⟩ := bblk hb1 (b := b) (by first | omega | (simp; omega))))
    all_goals
      have hz1 : V.heap.size ≤ cb := hcb
      have hz2 : V.heap.size ≤ cb2 := Nat.le_trans hz0 hcb2
      have hzw : w.heap.size ≤ V.heap.size := HB.out.size
      have hcl := hct.lt
      have hbb0 : Below V.heap.size V c0w := (Below.refl V.heap.size V).drew.trans hb0
      have HBF := Lib.hid ((HB.out.trans (hbb0.mono hzw)).trans (hb1.mono (Nat.le_trans hzw hz0)))
      have HCT := Lib.hid (hct.below hb1 hcl)
      have HC2 := Lib.hid hct2
      clear hct hct2 hb0 hb1 ka0 kb0 ka1 kb1 hcb hcb2 hbb0
      go_wp2_with fail
      go_ret
      exact ⟨cb, cb2, _, _, c1w, ⟨rfl, rfl, HBF.out⟩, Nat.le_trans hzw hz1, Nat.le_trans hzw hz2, HCT.out, HC2.out, fun h => absurd rfl h⟩
  · have hkc : (k : Int) + 1 ≤ (cap : Int) := by omega
    have hk1 : (1 : Int) ≤ (k : Int) + 1 := by omega
    have hcI : (1 : Int) ≤ (cap : Int) := by omega
    go_region_held3 (fun w' => (w'.cell? ⟨nb, 4, none⟩ = some (.slice (some ⟨b, o, none⟩) (k + 1 : Nat) cap) ∧ w'.cell? ⟨b, o, none⟩ = some (.int .i64 x.kind) ∧ w'.cell? ⟨b, o + 1, none⟩ = some (.string x.text) ∧ w'.cell? ⟨b, o + 2, none⟩ = some (.string x.more) ∧ w'.cell? ⟨b, o + 3, none⟩ = some (.int .u64 x.num) ∧ w'.cell? ⟨b, o + 4, none⟩ = some (.slice x.ao x.kids.length x.cap))) (go_keep) (first | (go_at_call 177; show Calls _ _ #[_, x.val] _ _; refine (nodeAt_any 1 x _).mono ?_; rintro e c0w ⟨cb, rfl, hcb, hct, hb0⟩; have hz0 : V.heap.size ≤ c0w.heap.size := (by have h := hb0.size; first | exact h | (simp at h; omega)); obtain ⟨ka0, -⟩ := bblk hb0 (b := nb) (by first | omega | (simp; omega)); obtain ⟨kb0, -⟩ := bblk hb0 (b := b) (by first | omega | (simp; omega))) | (go_at_call 180; refine (listAt_any 2 _ _ _ _).mono ?_; rintro e c1w ⟨cb2, rfl, hcb2, hct2, hb1⟩; obtain ⟨ka1, -⟩ := bblk hb1 (b := nb) (by first | omega | (simp; omega)); obtain ⟨kb1, -⟩ := bblk hb1 (b := b) (by first | omega | (simp; omega))))
    all_goals
      have hz1 : V.heap.size ≤ cb := hcb
      have hz2 : V.heap.size ≤ cb2 := Nat.le_trans hz0 hcb2
      have hzw : w.heap.size ≤ V.heap.size := HB.out.size
      have hcl := hct.lt
      have hbb0 : Below V.heap.size V c0w := (Below.refl V.heap.size V).drew.trans hb0
      have HBF := Lib.hid ((HB.out.trans (hbb0.mono hzw)).trans (hb1.mono (Nat.le_trans hzw hz0)))
      have HCT := Lib.hid (hct.below hb1 hcl)
      have HC2 := Lib.hid hct2
      clear hct hct2 hb0 hb1 ka0 kb0 ka1 kb1 hcb hcb2 hbb0
      go_wp2_with fail
      go_ret
      exact ⟨cb, cb2, o + 5, cap - 1, c1w, ⟨rfl, rfl, HBF.out⟩, Nat.le_trans hzw hz1, Nat.le_trans hzw hz2, HCT.out, HC2.out, fun _ => rfl⟩

set_option maxRecDepth 100000 in
theorem slC_53 (W0 : World) (bs : Bool) (n : Nd) (hk : n.kind = 53) (x : Nd) (xs : List Nd) (D : Nat) (R : By → Nat → Prop) (bd : Nat) (R2 : Nat → By → Nat → Prop) (bd2 bdl : Nat) (hkx : n.kids = x :: xs) (hL : LiesD D W0 n) (hRm : n.kids.length ≤ n.cap) (hN : NodeW W0 bs bd x R) (hN2 : ∀ i y, xs[i]? = some y → NodeW W0 bs bd2 y (R2 i)) (k : Nat) (hkl : xs.length = k) (hxs : xs.length ≤ 999) (hbl : 16 + 4 * xs.length + xs.length * bd2 ≤ bdl) : SlotsC W0 bs n (fun sl => ∃ c c2, sl = [⟨1, 4, 0, some (204, c), R, bd⟩, ⟨2, 4, 0, some (206, c2), VecAt k R2, bdl⟩]) := by
  intro mb rb cap O w hb hm
  have hval : n.val = .agg #[.int .i64 53, .string n.text, .string n.more, .int .u64 n.num, .slice n.ao n.kids.length n.cap] := by rw [← hk]; rfl
  rw [hval]
  have HM := Lib.hid hm
  have HB := Lib.hid hb
  clear hm hb hval
  have hty : isTypeB 53 = false := by decide
  have hln : n.kids.length = xs.length + 1 := by rw [hkx]; rfl
  obtain ⟨b, o, hao, hx00, hxs0, hcp⟩ : ∃ b o, n.ao = some ⟨b, o, none⟩ ∧ NdCells W0 b o x ∧ (∀ i y, xs[i]? = some y → NdCells W0 b (o + 5 + i * 5) y) ∧ n.kids.length ≤ n.cap := by
    cases D with
    | zero => exact hL.elim
    | succ D =>
      obtain ⟨⟨b, o, ha, hc⟩, -⟩ := hL.2 0 x (by rw [hkx]; rfl)
      rw [Nat.zero_mul, Nat.add_zero] at hc
      refine ⟨b, o, ha, hc, fun i y hy => ?_, ?_⟩
      · obtain ⟨⟨b', o', ha', hc'⟩, -⟩ := hL.2 (i + 1) y (by rw [hkx]; exact hy)
        rw [ha] at ha'
        cases ha'
        rw [show o + 5 + i * 5 = o + (i + 1) * 5 from by omega]
        exact hc'
      · exact hRm
  have hx0 : NdCells w b o x := hx00.below HB.out hx00.lt
  have hxl : b < w.heap.size := hx0.lt
  rw [hln, hkl] at hcp
  rw [hln, hao, hkl]
  have HKL := Lib.hid hkl
  clear hkl
  go_enter Tryz.func75, Tryz.ntmps75
  go_wp2_with fail
  refine (isType_any 53 _).mono ?_
  rintro e w2 ⟨rfl, hb1⟩
  have hw : w.heap.size < (w.alloc (.cells #[.int .i64 53, .string n.text, .string n.more, .int .u64 n.num, .slice (some ⟨b, o, none⟩) (k + 1 : Nat) n.cap] 25)).heap.size := by simp
  have hcell : ∀ j, (w.alloc (.cells #[.int .i64 53, .string n.text, .string n.more, .int .u64 n.num, .slice (some ⟨b, o, none⟩) (k + 1 : Nat) n.cap] 25)).cell? ⟨w.heap.size, j, none⟩ = (#[.int .i64 53, .string n.text, .string n.more, .int .u64 n.num, .slice (some ⟨b, o, none⟩) (k + 1 : Nat) n.cap] : Array Value)[j]? := fun j => World.cell?_alloc_at _ _ _ _ rfl
  have n0 := (hb1.cell (p := ⟨w.heap.size, 0, none⟩) hw).trans (hcell 0)
  have n1 := (hb1.cell (p := ⟨w.heap.size, 1, none⟩) hw).trans (hcell 1)
  have n2 := (hb1.cell (p := ⟨w.heap.size, 2, none⟩) hw).trans (hcell 2)
  have n3 := (hb1.cell (p := ⟨w.heap.size, 3, none⟩) hw).trans (hcell 3)
  have n4 := (hb1.cell (p := ⟨w.heap.size, 4, none⟩) hw).trans (hcell 4)
  have hb2 : Below w.heap.size w w2 := ((Below.refl _ _).alloc (Nat.le_refl _) _).trans (hb1.mono (Nat.le_of_lt hw))
  have HB2 := Lib.hid hb2
  clear hb1 hcell hw hb2
  go_wp2_with fail
  refine (lit_53 _ _ _ _ _ _ k x R bd (VecAt k R2) bdl _ (hx0.below HB2.out hxl) hcp).mono ?_
  rintro e w3 ⟨cb, cb2, o2, cap2, wa, ⟨rfl, hw3, hb3⟩, hcb, hcb2, hct, hcl, ho2⟩
  clear n0 n1 n2 n3 n4
  have HW3 := Lib.hid hw3
  clear hw3
  go_wp2_with fail
  go_ret
  have hb2 := HB2.out
  refine litPost_slots HB2.out hb3 HW3.out ⟨_, _, rfl⟩ (by simp) (fun t ht F c h => ?_)
  · have hz := hb2.size
    have hm1 := HM.out.mlt
    have hm2 := HM.out.row.2
    have hWa : Below W0.heap.size W0 wa := HB.out.trans ((HB2.out.trans (hb3.mono hb2.size)).mono HB.out.size)
    rcases List.mem_cons.1 ht with rfl | ht
    · cases h
      exact node_ref W0 mb bs x bd R _ wa rb hN hWa HM.out.km HM.out.row.1 hct (by omega) (by omega)
    · obtain rfl := List.mem_singleton.1 ht
      cases h
      rw [← HKL.out] at hcl ⊢
      refine list_ref W0 mb bs xs b o2 cap2 bd2 bdl R2 (fun i y hy => ?_) hN2 (by omega) hbl cb2 wa rb hWa HM.out.km HM.out.row.1 hcl (by omega) (by omega)
      have hi := (List.getElem?_eq_some_iff.1 hy).1
      rw [ho2 (by rw [← HKL.out]; omega)]
      exact hxs0 i y hy

end Go.Proofs.YtdljkanfebndaaaGreatDoor
