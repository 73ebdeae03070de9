/-
  unnode kind by kind, part D: what it lays, given its own contract a level down. No conditions.
-/
import Derived.Test.YtongafghllkomaaGreatDoorTests
namespace Go.Proofs.YtongafghllkomaaGreatDoor
open Go.RowKit
set_option linter.unusedVariables false

set_option maxRecDepth 100000 in
set_option maxHeartbeats 2000000 in
theorem un_15 (d : Nat) (hU : UnC d) (n : Nd) (D : Nat) (w : World) (hL : LiesD D w n) (hG : PreD (d + 1) n) (hk : n.kind = 15) (hm : (n.kid 1).kind ≠ 0) :
    Calls Tryz.prog 31 #[n.val] w (UnPost (d + 1) n w) := by
  obtain ⟨D, rfl⟩ : ∃ E, D = E + 1 := by cases D with | zero => exact hL.elim | succ E => exact ⟨E, rfl⟩
  obtain ⟨k, t, m, u, ao, cap, kids⟩ := n
  obtain rfl : k = 15 := hk
  have hn0 : (Nd.mk 15 t m u ao cap kids).kind ≠ 0 := by show (15 : Int) ≠ 0; decide
  have hn1 : (Nd.mk 15 t m u ao cap kids).kind ≠ 1 := by show (15 : Int) ≠ 1; decide
  have hln : kids.length = 3 := by
    have h1 := ((hG.fit hn0).2.2.2.1 hn1)
    have e1 : (fixedL 15).length = 3 := by decide
    have e2 : restL 15 = 28 := by decide
    simp only [Nd.kind, Nd.kids] at h1
    rw [e1, e2] at h1
    omega
  obtain ⟨x0, x1, x2, rfl⟩ : ∃ x0 x1 x2, kids = [x0, x1, x2] := kids3 (n := Nd.mk 15 t m u ao cap kids) hln
  obtain ⟨b, o, hao0, p00, p01, p02, p03, p04, hLx0⟩ := kid_cells (j := 0) hL rfl (Below.refl _ _)
  obtain rfl : ao = some ⟨b, o, none⟩ := hao0
  obtain ⟨hP0, hC0⟩ := hG.kid (i := 0) (x := x0) hn0 rfl
  obtain ⟨bq, oq, hao1, p10, p11, p12, p13, p14, hLx1⟩ := kid_cells (j := 1) hL rfl (Below.refl _ _)
  cases hao1
  obtain ⟨hP1, hC1⟩ := hG.kid (i := 1) (x := x1) hn0 rfl
  obtain ⟨bq, oq, hao2, p20, p21, p22, p23, p24, hLx2⟩ := kid_cells (j := 2) hL rfl (Below.refl _ _)
  cases hao2
  obtain ⟨hP2, hC2⟩ := hG.kid (i := 2) (x := x2) hn0 rfl
  have hk0 : x0.kind = 33 := by simpa using class_few [33] rfl (hC0 hn1)
  have hk1 : x1.kind = 34 := by
    have h := class_few [34, 0] rfl (hC1 hn1)
    have h2 : x1.kind ≠ 0 := hm
    simp at h; omega
  have hk2 : x2.kind = 6 := by simpa using class_few [6] rfl (hC2 hn1)
  simp only [Nat.zero_mul, Nat.add_zero, Nat.one_mul, Nat.reduceMul] at p00 p01 p02 p03 p04 p10 p11 p12 p13 p14 p20 p21 p22 p23 p24
  have HG0 := Lib.hid (hP0.good (by rw [hk0]; decide))
  have HK0 := Lib.hid hk0
  have HL0 := Lib.hid hLx0
  have HG1 := Lib.hid (hP1.good (by rw [hk1]; decide))
  have HK1 := Lib.hid hk1
  have HL1 := Lib.hid hLx1
  have HG2 := Lib.hid (hP2.good (by rw [hk2]; decide))
  have HK2 := Lib.hid hk2
  have HL2 := Lib.hid hLx2
  have hblt : b < w.heap.size := World.block_lt_of_cell? _ _ p00
  clear hn0 hn1 hln hL hG hP0 hC0 hk0 hLx0 hP1 hC1 hk1 hLx1 hP2 hC2 hk2 hLx2 hm
  show Calls _ _ #[.agg #[.int .i64 15, .string t, .string m, .int .u64 u, .slice (some ⟨b, o, none⟩) 3 cap]] w _
  go_enter Tryz.func31, Tryz.ntmps31
  go_wp2_with fail
  refine (exactly_any _ _ _ _ _ 3 _ _).mono ?_
  rintro e w1 ⟨rfl, hb1⟩
  have hz1 : w.heap.size < w1.heap.size := by have := hb1.size; simp at this; omega
  have HB1 := Lib.hid (((Below.refl w.heap.size w).alloc (Nat.le_refl _) _).trans (hb1.mono (by simp)))
  obtain ⟨k0, -⟩ := bblk hb1 (b := w.heap.size) (by simp)
  obtain ⟨k1, -⟩ := bblk hb1 (b := b) (by simp; omega)
  clear hb1
  go_wp2_with fail
  go_region_held3 (fun w' => (w'.cell? ⟨w.heap.size, 4, none⟩ = some (.slice (some ⟨b, o, none⟩) 3 cap) ∧ w'.cell? ⟨b, o, none⟩ = some (.int .i64 x0.kind) ∧ w'.cell? ⟨b, o + 1, none⟩ = some (.string x0.text) ∧ w'.cell? ⟨b, o + 2, none⟩ = some (.string x0.more) ∧ w'.cell? ⟨b, o + 3, none⟩ = some (.int .u64 x0.num) ∧ w'.cell? ⟨b, o + 4, none⟩ = some (.slice x0.ao x0.kids.length x0.cap) ∧ w'.cell? ⟨b, o + 5, none⟩ = some (.int .i64 x1.kind) ∧ w'.cell? ⟨b, o + 5 + 1, none⟩ = some (.string x1.text) ∧ w'.cell? ⟨b, o + 5 + 2, none⟩ = some (.string x1.more) ∧ w'.cell? ⟨b, o + 5 + 3, none⟩ = some (.int .u64 x1.num) ∧ w'.cell? ⟨b, o + 5 + 4, none⟩ = some (.slice x1.ao x1.kids.length x1.cap) ∧ w'.cell? ⟨b, o + 10, none⟩ = some (.int .i64 x2.kind) ∧ w'.cell? ⟨b, o + 10 + 1, none⟩ = some (.string x2.text) ∧ w'.cell? ⟨b, o + 10 + 2, none⟩ = some (.string x2.more) ∧ w'.cell? ⟨b, o + 10 + 3, none⟩ = some (.int .u64 x2.num) ∧ w'.cell? ⟨b, o + 10 + 4, none⟩ = some (.slice x2.ao x2.kids.length x2.cap))) (go_keep) (first | (go_at_call 63; refine (nodeOf_33 d hU x0 D _ (by first | exact HL0.out.below HB1.out | exact HL0.out.below (HB1.out.drew) | exact HL0.out.below ‹Below w.heap.size w _› | exact HL0.out.below (Below.drew ‹Below w.heap.size w _›)) HG0.out HK0.out).mono ?_; rintro e c0w ⟨b0, rfl, hR0, hb0⟩; have HZ0 : Below w.heap.size w c0w := (by first | exact Below.trans ‹Below w.heap.size w _› (hb0.mono (Below.size ‹Below w.heap.size w _›)) | exact Below.trans (Below.drew ‹Below w.heap.size w _›) (hb0.mono (by have := Below.size ‹Below w.heap.size w _›; simpa using this)) | exact HB1.out.trans (hb0.mono HB1.out.size) | exact (HB1.out.drew).trans (hb0.mono (by have := HB1.out.size; simpa using this))); have hz0 : w.heap.size < c0w.heap.size := (by have h := hb0.size; (try simp at h); omega); obtain ⟨ka0, -⟩ := bblk hb0 (b := w.heap.size) (by first | omega | (simp; omega)); obtain ⟨kb0, -⟩ := bblk hb0 (b := b) (by first | omega | (simp; omega))) | (go_at_call 71; refine (maybeString_some d hU x1 D _ (by first | exact HL1.out.below HB1.out | exact HL1.out.below (HB1.out.drew) | exact HL1.out.below ‹Below w.heap.size w _› | exact HL1.out.below (Below.drew ‹Below w.heap.size w _›)) HG1.out HK1.out).mono ?_; rintro e c1w ⟨b1, rfl, hR1, hb1⟩; have HZ1 : Below w.heap.size w c1w := (by first | exact Below.trans ‹Below w.heap.size w _› (hb1.mono (Below.size ‹Below w.heap.size w _›)) | exact Below.trans (Below.drew ‹Below w.heap.size w _›) (hb1.mono (by have := Below.size ‹Below w.heap.size w _›; simpa using this)) | exact HB1.out.trans (hb1.mono HB1.out.size) | exact (HB1.out.drew).trans (hb1.mono (by have := HB1.out.size; simpa using this))); have hz1 : w.heap.size < c1w.heap.size := (by have h := hb1.size; (try simp at h); omega); obtain ⟨ka1, -⟩ := bblk hb1 (b := w.heap.size) (by first | omega | (simp; omega)); obtain ⟨kb1, -⟩ := bblk hb1 (b := b) (by first | omega | (simp; omega))) | (go_at_call 72; refine (nodeOf_6 d hU x2 D _ (by first | exact HL2.out.below HB1.out | exact HL2.out.below (HB1.out.drew) | exact HL2.out.below ‹Below w.heap.size w _› | exact HL2.out.below (Below.drew ‹Below w.heap.size w _›)) HG2.out HK2.out).mono ?_; rintro e c2w ⟨b2, rfl, hR2, hb2⟩; have HZ2 : Below w.heap.size w c2w := (by first | exact Below.trans ‹Below w.heap.size w _› (hb2.mono (Below.size ‹Below w.heap.size w _›)) | exact Below.trans (Below.drew ‹Below w.heap.size w _›) (hb2.mono (by have := Below.size ‹Below w.heap.size w _›; simpa using this)) | exact HB1.out.trans (hb2.mono HB1.out.size) | exact (HB1.out.drew).trans (hb2.mono (by have := HB1.out.size; simpa using this))); have hz2 : w.heap.size < c2w.heap.size := (by have h := hb2.size; (try simp at h); omega); obtain ⟨ka2, -⟩ := bblk hb2 (b := w.heap.size) (by first | omega | (simp; omega)); obtain ⟨kb2, -⟩ := bblk hb2 (b := b) (by first | omega | (simp; omega))))
  go_wp2_with fail
  go_ret
  refine unpost _ ptrTy_15 sTy_15 rfl HZ2 ?_
  rw [slots_15 _ rfl]
  exact ⟨rfl, rfl, rfl, ⟨b0, rfl, ((((hR0.mono (From.le (by first | omega | (simp; omega)))).below (by first | exact hb1 | (have h := hb1; simpa using h))).below (by first | exact hb2 | (have h := hb2; simpa using h))).below ((Below.refl _ _).alloc (Nat.le_refl _) _))⟩, Or.inr ⟨(show x1.kind ≠ 0 from (by have h := HK1.out; first | omega | exact expr_ne0 h)), b1, rfl, (((hR1.mono (From.le (by first | omega | (simp; omega)))).below (by first | exact hb2 | (have h := hb2; simpa using h))).below ((Below.refl _ _).alloc (Nat.le_refl _) _))⟩, ⟨b2, rfl, ((hR2.mono (From.le (by first | omega | (simp; omega)))).below ((Below.refl _ _).alloc (Nat.le_refl _) _))⟩, trivial⟩

set_option maxRecDepth 100000 in
set_option maxHeartbeats 2000000 in
theorem un_15_none (d : Nat) (hU : UnC d) (n : Nd) (D : Nat) (w : World) (hL : LiesD D w n) (hG : PreD (d + 1) n) (hk : n.kind = 15) (hm : (n.kid 1).kind = 0) :
    Calls Tryz.prog 31 #[n.val] w (UnPost (d + 1) n w) := by
  obtain ⟨D, rfl⟩ : ∃ E, D = E + 1 := by cases D with | zero => exact hL.elim | succ E => exact ⟨E, rfl⟩
  obtain ⟨k, t, m, u, ao, cap, kids⟩ := n
  obtain rfl : k = 15 := hk
  have hn0 : (Nd.mk 15 t m u ao cap kids).kind ≠ 0 := by show (15 : Int) ≠ 0; decide
  have hn1 : (Nd.mk 15 t m u ao cap kids).kind ≠ 1 := by show (15 : Int) ≠ 1; decide
  have hln : kids.length = 3 := by
    have h1 := ((hG.fit hn0).2.2.2.1 hn1)
    have e1 : (fixedL 15).length = 3 := by decide
    have e2 : restL 15 = 28 := by decide
    simp only [Nd.kind, Nd.kids] at h1
    rw [e1, e2] at h1
    omega
  obtain ⟨x0, x1, x2, rfl⟩ : ∃ x0 x1 x2, kids = [x0, x1, x2] := kids3 (n := Nd.mk 15 t m u ao cap kids) hln
  obtain ⟨b, o, hao0, p00, p01, p02, p03, p04, hLx0⟩ := kid_cells (j := 0) hL rfl (Below.refl _ _)
  obtain rfl : ao = some ⟨b, o, none⟩ := hao0
  obtain ⟨hP0, hC0⟩ := hG.kid (i := 0) (x := x0) hn0 rfl
  obtain ⟨bq, oq, hao1, p10, p11, p12, p13, p14, hLx1⟩ := kid_cells (j := 1) hL rfl (Below.refl _ _)
  cases hao1
  obtain ⟨hP1, hC1⟩ := hG.kid (i := 1) (x := x1) hn0 rfl
  obtain ⟨bq, oq, hao2, p20, p21, p22, p23, p24, hLx2⟩ := kid_cells (j := 2) hL rfl (Below.refl _ _)
  cases hao2
  obtain ⟨hP2, hC2⟩ := hG.kid (i := 2) (x := x2) hn0 rfl
  have hk0 : x0.kind = 33 := by simpa using class_few [33] rfl (hC0 hn1)
  have hk1 : x1.kind = 0 := hm
  have hk2 : x2.kind = 6 := by simpa using class_few [6] rfl (hC2 hn1)
  simp only [Nat.zero_mul, Nat.add_zero, Nat.one_mul, Nat.reduceMul] at p00 p01 p02 p03 p04 p10 p11 p12 p13 p14 p20 p21 p22 p23 p24
  have HG0 := Lib.hid (hP0.good (by rw [hk0]; decide))
  have HK0 := Lib.hid hk0
  have HL0 := Lib.hid hLx0
  have HK1 := Lib.hid hk1
  have HL1 := Lib.hid hLx1
  have HG2 := Lib.hid (hP2.good (by rw [hk2]; decide))
  have HK2 := Lib.hid hk2
  have HL2 := Lib.hid hLx2
  have hblt : b < w.heap.size := World.block_lt_of_cell? _ _ p00
  clear hn0 hn1 hln hL hG hP0 hC0 hk0 hLx0 hP1 hC1 hk1 hLx1 hP2 hC2 hk2 hLx2 hm
  show Calls _ _ #[.agg #[.int .i64 15, .string t, .string m, .int .u64 u, .slice (some ⟨b, o, none⟩) 3 cap]] w _
  go_enter Tryz.func31, Tryz.ntmps31
  go_wp2_with fail
  refine (exactly_any _ _ _ _ _ 3 _ _).mono ?_
  rintro e w1 ⟨rfl, hb1⟩
  have hz1 : w.heap.size < w1.heap.size := by have := hb1.size; simp at this; omega
  have HB1 := Lib.hid (((Below.refl w.heap.size w).alloc (Nat.le_refl _) _).trans (hb1.mono (by simp)))
  obtain ⟨k0, -⟩ := bblk hb1 (b := w.heap.size) (by simp)
  obtain ⟨k1, -⟩ := bblk hb1 (b := b) (by simp; omega)
  clear hb1
  go_wp2_with fail
  go_region_held3 (fun w' => (w'.cell? ⟨w.heap.size, 4, none⟩ = some (.slice (some ⟨b, o, none⟩) 3 cap) ∧ w'.cell? ⟨b, o, none⟩ = some (.int .i64 x0.kind) ∧ w'.cell? ⟨b, o + 1, none⟩ = some (.string x0.text) ∧ w'.cell? ⟨b, o + 2, none⟩ = some (.string x0.more) ∧ w'.cell? ⟨b, o + 3, none⟩ = some (.int .u64 x0.num) ∧ w'.cell? ⟨b, o + 4, none⟩ = some (.slice x0.ao x0.kids.length x0.cap) ∧ w'.cell? ⟨b, o + 5, none⟩ = some (.int .i64 x1.kind) ∧ w'.cell? ⟨b, o + 5 + 1, none⟩ = some (.string x1.text) ∧ w'.cell? ⟨b, o + 5 + 2, none⟩ = some (.string x1.more) ∧ w'.cell? ⟨b, o + 5 + 3, none⟩ = some (.int .u64 x1.num) ∧ w'.cell? ⟨b, o + 5 + 4, none⟩ = some (.slice x1.ao x1.kids.length x1.cap) ∧ w'.cell? ⟨b, o + 10, none⟩ = some (.int .i64 x2.kind) ∧ w'.cell? ⟨b, o + 10 + 1, none⟩ = some (.string x2.text) ∧ w'.cell? ⟨b, o + 10 + 2, none⟩ = some (.string x2.more) ∧ w'.cell? ⟨b, o + 10 + 3, none⟩ = some (.int .u64 x2.num) ∧ w'.cell? ⟨b, o + 10 + 4, none⟩ = some (.slice x2.ao x2.kids.length x2.cap))) (go_keep) (first | (go_at_call 63; refine (nodeOf_33 d hU x0 D _ (by first | exact HL0.out.below HB1.out | exact HL0.out.below (HB1.out.drew) | exact HL0.out.below ‹Below w.heap.size w _› | exact HL0.out.below (Below.drew ‹Below w.heap.size w _›)) HG0.out HK0.out).mono ?_; rintro e c0w ⟨b0, rfl, hR0, hb0⟩; have HZ0 : Below w.heap.size w c0w := (by first | exact Below.trans ‹Below w.heap.size w _› (hb0.mono (Below.size ‹Below w.heap.size w _›)) | exact Below.trans (Below.drew ‹Below w.heap.size w _›) (hb0.mono (by have := Below.size ‹Below w.heap.size w _›; simpa using this)) | exact HB1.out.trans (hb0.mono HB1.out.size) | exact (HB1.out.drew).trans (hb0.mono (by have := HB1.out.size; simpa using this))); have hz0 : w.heap.size < c0w.heap.size := (by have h := hb0.size; (try simp at h); omega); obtain ⟨ka0, -⟩ := bblk hb0 (b := w.heap.size) (by first | omega | (simp; omega)); obtain ⟨kb0, -⟩ := bblk hb0 (b := b) (by first | omega | (simp; omega))) | (go_at_call 71; refine (maybeString_none x1 _ HK1.out).mono ?_; rintro e c1w ⟨rfl, hb1⟩; have HZ1 : Below w.heap.size w c1w := (by first | exact Below.trans ‹Below w.heap.size w _› (hb1.mono (Below.size ‹Below w.heap.size w _›)) | exact Below.trans (Below.drew ‹Below w.heap.size w _›) (hb1.mono (by have := Below.size ‹Below w.heap.size w _›; simpa using this)) | exact HB1.out.trans (hb1.mono HB1.out.size) | exact (HB1.out.drew).trans (hb1.mono (by have := HB1.out.size; simpa using this))); have hz1 : w.heap.size < c1w.heap.size := (by have h := hb1.size; (try simp at h); omega); obtain ⟨ka1, -⟩ := bblk hb1 (b := w.heap.size) (by first | omega | (simp; omega)); obtain ⟨kb1, -⟩ := bblk hb1 (b := b) (by first | omega | (simp; omega))) | (go_at_call 72; refine (nodeOf_6 d hU x2 D _ (by first | exact HL2.out.below HB1.out | exact HL2.out.below (HB1.out.drew) | exact HL2.out.below ‹Below w.heap.size w _› | exact HL2.out.below (Below.drew ‹Below w.heap.size w _›)) HG2.out HK2.out).mono ?_; rintro e c2w ⟨b2, rfl, hR2, hb2⟩; have HZ2 : Below w.heap.size w c2w := (by first | exact Below.trans ‹Below w.heap.size w _› (hb2.mono (Below.size ‹Below w.heap.size w _›)) | exact Below.trans (Below.drew ‹Below w.heap.size w _›) (hb2.mono (by have := Below.size ‹Below w.heap.size w _›; simpa using this)) | exact HB1.out.trans (hb2.mono HB1.out.size) | exact (HB1.out.drew).trans (hb2.mono (by have := HB1.out.size; simpa using this))); have hz2 : w.heap.size < c2w.heap.size := (by have h := hb2.size; (try simp at h); omega); obtain ⟨ka2, -⟩ := bblk hb2 (b := w.heap.size) (by first | omega | (simp; omega)); obtain ⟨kb2, -⟩ := bblk hb2 (b := b) (by first | omega | (simp; omega))))
  go_wp2_with fail
  go_ret
  refine unpost _ ptrTy_15 sTy_15 rfl HZ2 ?_
  rw [slots_15 _ rfl]
  exact ⟨rfl, rfl, rfl, ⟨b0, rfl, ((((hR0.mono (From.le (by first | omega | (simp; omega)))).below (by first | exact hb1 | (have h := hb1; simpa using h))).below (by first | exact hb2 | (have h := hb2; simpa using h))).below ((Below.refl _ _).alloc (Nat.le_refl _) _))⟩, Or.inl ⟨HK1.out, rfl⟩, ⟨b2, rfl, ((hR2.mono (From.le (by first | omega | (simp; omega)))).below ((Below.refl _ _).alloc (Nat.le_refl _) _))⟩, trivial⟩

set_option maxRecDepth 100000 in
set_option maxHeartbeats 2000000 in
theorem un_29 (d : Nat) (hU : UnC d) (n : Nd) (D : Nat) (w : World) (hL : LiesD D w n) (hG : PreD (d + 1) n) (hk : n.kind = 29) (hm : (n.kid 1).kind ≠ 0) :
    Calls Tryz.prog 31 #[n.val] w (UnPost (d + 1) n w) := by
  obtain ⟨D, rfl⟩ : ∃ E, D = E + 1 := by cases D with | zero => exact hL.elim | succ E => exact ⟨E, rfl⟩
  obtain ⟨k, t, m, u, ao, cap, kids⟩ := n
  obtain rfl : k = 29 := hk
  have hn0 : (Nd.mk 29 t m u ao cap kids).kind ≠ 0 := by show (29 : Int) ≠ 0; decide
  have hn1 : (Nd.mk 29 t m u ao cap kids).kind ≠ 1 := by show (29 : Int) ≠ 1; decide
  have hln : kids.length = 2 := by
    have h1 := ((hG.fit hn0).2.2.2.1 hn1)
    have e1 : (fixedL 29).length = 2 := by decide
    have e2 : restL 29 = 28 := by decide
    simp only [Nd.kind, Nd.kids] at h1
    rw [e1, e2] at h1
    omega
  obtain ⟨x0, x1, rfl⟩ : ∃ x0 x1, kids = [x0, x1] := kids2 (n := Nd.mk 29 t m u ao cap kids) hln
  obtain ⟨b, o, hao0, p00, p01, p02, p03, p04, hLx0⟩ := kid_cells (j := 0) hL rfl (Below.refl _ _)
  obtain rfl : ao = some ⟨b, o, none⟩ := hao0
  obtain ⟨hP0, hC0⟩ := hG.kid (i := 0) (x := x0) hn0 rfl
  obtain ⟨bq, oq, hao1, p10, p11, p12, p13, p14, hLx1⟩ := kid_cells (j := 1) hL rfl (Below.refl _ _)
  cases hao1
  obtain ⟨hP1, hC1⟩ := hG.kid (i := 1) (x := x1) hn0 rfl
  have hk0 : x0.kind ∈ ([33, 34] : List Int) := class_few [33, 34] rfl (hC0 hn1)
  have hk1 : x1.kind ∈ exprL := by
    have h := hC1 hn1
    have h2 : ((x1.kind == 0) || isExprB x1.kind) = true := h
    have h3 : (x1.kind == 0) = false := by simpa using (show x1.kind ≠ 0 from hm)
    rw [h3] at h2
    exact class_0 (x := x1) h2
  simp only [Nat.zero_mul, Nat.add_zero, Nat.one_mul] at p00 p01 p02 p03 p04 p10 p11 p12 p13 p14
  have HG0 := Lib.hid (hP0.good (by revert hk0; unfold walkL; simp; omega))
  have HK0 := Lib.hid hk0
  have HL0 := Lib.hid hLx0
  have HG1 := Lib.hid (hP1.good (expr_walk hk1))
  have HK1 := Lib.hid hk1
  have HL1 := Lib.hid hLx1
  have hblt : b < w.heap.size := World.block_lt_of_cell? _ _ p00
  clear hn0 hn1 hln hL hG hP0 hC0 hk0 hLx0 hP1 hC1 hk1 hLx1 hm
  show Calls _ _ #[.agg #[.int .i64 29, .string t, .string m, .int .u64 u, .slice (some ⟨b, o, none⟩) 2 cap]] w _
  go_enter Tryz.func31, Tryz.ntmps31
  go_wp2_with fail
  refine (exactly_any _ _ _ _ _ 2 _ _).mono ?_
  rintro e w1 ⟨rfl, hb1⟩
  have hz1 : w.heap.size < w1.heap.size := by have := hb1.size; simp at this; omega
  have HB1 := Lib.hid (((Below.refl w.heap.size w).alloc (Nat.le_refl _) _).trans (hb1.mono (by simp)))
  obtain ⟨k0, -⟩ := bblk hb1 (b := w.heap.size) (by simp)
  obtain ⟨k1, -⟩ := bblk hb1 (b := b) (by simp; omega)
  clear hb1
  go_wp2_with fail
  go_region_held3 (fun w' => (w'.cell? ⟨w.heap.size, 4, none⟩ = some (.slice (some ⟨b, o, none⟩) 2 cap) ∧ w'.cell? ⟨b, o, none⟩ = some (.int .i64 x0.kind) ∧ w'.cell? ⟨b, o + 1, none⟩ = some (.string x0.text) ∧ w'.cell? ⟨b, o + 2, none⟩ = some (.string x0.more) ∧ w'.cell? ⟨b, o + 3, none⟩ = some (.int .u64 x0.num) ∧ w'.cell? ⟨b, o + 4, none⟩ = some (.slice x0.ao x0.kids.length x0.cap) ∧ w'.cell? ⟨b, o + 5, none⟩ = some (.int .i64 x1.kind) ∧ w'.cell? ⟨b, o + 5 + 1, none⟩ = some (.string x1.text) ∧ w'.cell? ⟨b, o + 5 + 2, none⟩ = some (.string x1.more) ∧ w'.cell? ⟨b, o + 5 + 3, none⟩ = some (.int .u64 x1.num) ∧ w'.cell? ⟨b, o + 5 + 4, none⟩ = some (.slice x1.ao x1.kids.length x1.cap))) (go_keep) (first | (go_at_call 76; refine (nodeOfPropertyKey d hU x0 D _ (by first | exact HL0.out.below HB1.out | exact HL0.out.below (HB1.out.drew) | exact HL0.out.below ‹Below w.heap.size w _› | exact HL0.out.below (Below.drew ‹Below w.heap.size w _›)) HG0.out HK0.out).mono ?_; rintro e c0w ⟨b0, rfl, hR0, hb0⟩; have HZ0 : Below w.heap.size w c0w := (by first | exact Below.trans ‹Below w.heap.size w _› (hb0.mono (Below.size ‹Below w.heap.size w _›)) | exact Below.trans (Below.drew ‹Below w.heap.size w _›) (hb0.mono (by have := Below.size ‹Below w.heap.size w _›; simpa using this)) | exact HB1.out.trans (hb0.mono HB1.out.size) | exact (HB1.out.drew).trans (hb0.mono (by have := HB1.out.size; simpa using this))); have hz0 : w.heap.size < c0w.heap.size := (by have h := hb0.size; (try simp at h); omega); obtain ⟨ka0, -⟩ := bblk hb0 (b := w.heap.size) (by first | omega | (simp; omega)); obtain ⟨kb0, -⟩ := bblk hb0 (b := b) (by first | omega | (simp; omega))) | (go_at_call 66; refine (maybeExpression_some d hU x1 D _ (by first | exact HL1.out.below HB1.out | exact HL1.out.below (HB1.out.drew) | exact HL1.out.below ‹Below w.heap.size w _› | exact HL1.out.below (Below.drew ‹Below w.heap.size w _›)) HG1.out HK1.out).mono ?_; rintro e c1w ⟨b1, rfl, hR1, hb1⟩; have HZ1 : Below w.heap.size w c1w := (by first | exact Below.trans ‹Below w.heap.size w _› (hb1.mono (Below.size ‹Below w.heap.size w _›)) | exact Below.trans (Below.drew ‹Below w.heap.size w _›) (hb1.mono (by have := Below.size ‹Below w.heap.size w _›; simpa using this)) | exact HB1.out.trans (hb1.mono HB1.out.size) | exact (HB1.out.drew).trans (hb1.mono (by have := HB1.out.size; simpa using this))); have hz1 : w.heap.size < c1w.heap.size := (by have h := hb1.size; (try simp at h); omega); obtain ⟨ka1, -⟩ := bblk hb1 (b := w.heap.size) (by first | omega | (simp; omega)); obtain ⟨kb1, -⟩ := bblk hb1 (b := b) (by first | omega | (simp; omega))))
  go_wp2_with fail
  go_ret
  refine unpost _ ptrTy_29 sTy_29 rfl HZ1 ?_
  rw [slots_29 _ rfl]
  exact ⟨rfl, rfl, rfl, ⟨b0, rfl, (((hR0.mono (From.le (by first | omega | (simp; omega)))).below (by first | exact hb1 | (have h := hb1; simpa using h))).below ((Below.refl _ _).alloc (Nat.le_refl _) _))⟩, rfl, Or.inr ⟨(show x1.kind ≠ 0 from (by have h := HK1.out; first | omega | exact expr_ne0 h)), b1, rfl, ((hR1.mono (From.le (by first | omega | (simp; omega)))).below ((Below.refl _ _).alloc (Nat.le_refl _) _))⟩, rfl, trivial⟩

set_option maxRecDepth 100000 in
set_option maxHeartbeats 2000000 in
theorem un_29_none (d : Nat) (hU : UnC d) (n : Nd) (D : Nat) (w : World) (hL : LiesD D w n) (hG : PreD (d + 1) n) (hk : n.kind = 29) (hm : (n.kid 1).kind = 0) :
    Calls Tryz.prog 31 #[n.val] w (UnPost (d + 1) n w) := by
  obtain ⟨D, rfl⟩ : ∃ E, D = E + 1 := by cases D with | zero => exact hL.elim | succ E => exact ⟨E, rfl⟩
  obtain ⟨k, t, m, u, ao, cap, kids⟩ := n
  obtain rfl : k = 29 := hk
  have hn0 : (Nd.mk 29 t m u ao cap kids).kind ≠ 0 := by show (29 : Int) ≠ 0; decide
  have hn1 : (Nd.mk 29 t m u ao cap kids).kind ≠ 1 := by show (29 : Int) ≠ 1; decide
  have hln : kids.length = 2 := by
    have h1 := ((hG.fit hn0).2.2.2.1 hn1)
    have e1 : (fixedL 29).length = 2 := by decide
    have e2 : restL 29 = 28 := by decide
    simp only [Nd.kind, Nd.kids] at h1
    rw [e1, e2] at h1
    omega
  obtain ⟨x0, x1, rfl⟩ : ∃ x0 x1, kids = [x0, x1] := kids2 (n := Nd.mk 29 t m u ao cap kids) hln
  obtain ⟨b, o, hao0, p00, p01, p02, p03, p04, hLx0⟩ := kid_cells (j := 0) hL rfl (Below.refl _ _)
  obtain rfl : ao = some ⟨b, o, none⟩ := hao0
  obtain ⟨hP0, hC0⟩ := hG.kid (i := 0) (x := x0) hn0 rfl
  obtain ⟨bq, oq, hao1, p10, p11, p12, p13, p14, hLx1⟩ := kid_cells (j := 1) hL rfl (Below.refl _ _)
  cases hao1
  obtain ⟨hP1, hC1⟩ := hG.kid (i := 1) (x := x1) hn0 rfl
  have hk0 : x0.kind ∈ ([33, 34] : List Int) := class_few [33, 34] rfl (hC0 hn1)
  have hk1 : x1.kind = 0 := hm
  simp only [Nat.zero_mul, Nat.add_zero, Nat.one_mul] at p00 p01 p02 p03 p04 p10 p11 p12 p13 p14
  have HG0 := Lib.hid (hP0.good (by revert hk0; unfold walkL; simp; omega))
  have HK0 := Lib.hid hk0
  have HL0 := Lib.hid hLx0
  have HK1 := Lib.hid hk1
  have HL1 := Lib.hid hLx1
  have hblt : b < w.heap.size := World.block_lt_of_cell? _ _ p00
  clear hn0 hn1 hln hL hG hP0 hC0 hk0 hLx0 hP1 hC1 hk1 hLx1 hm
  show Calls _ _ #[.agg #[.int .i64 29, .string t, .string m, .int .u64 u, .slice (some ⟨b, o, none⟩) 2 cap]] w _
  go_enter Tryz.func31, Tryz.ntmps31
  go_wp2_with fail
  refine (exactly_any _ _ _ _ _ 2 _ _).mono ?_
  rintro e w1 ⟨rfl, hb1⟩
  have hz1 : w.heap.size < w1.heap.size := by have := hb1.size; simp at this; omega
  have HB1 := Lib.hid (((Below.refl w.heap.size w).alloc (Nat.le_refl _) _).trans (hb1.mono (by simp)))
  obtain ⟨k0, -⟩ := bblk hb1 (b := w.heap.size) (by simp)
  obtain ⟨k1, -⟩ := bblk hb1 (b := b) (by simp; omega)
  clear hb1
  go_wp2_with fail
  go_region_held3 (fun w' => (w'.cell? ⟨w.heap.size, 4, none⟩ = some (.slice (some ⟨b, o, none⟩) 2 cap) ∧ w'.cell? ⟨b, o, none⟩ = some (.int .i64 x0.kind) ∧ w'.cell? ⟨b, o + 1, none⟩ = some (.string x0.text) ∧ w'.cell? ⟨b, o + 2, none⟩ = some (.string x0.more) ∧ w'.cell? ⟨b, o + 3, none⟩ = some (.int .u64 x0.num) ∧ w'.cell? ⟨b, o + 4, none⟩ = some (.slice x0.ao x0.kids.length x0.cap) ∧ w'.cell? ⟨b, o + 5, none⟩ = some (.int .i64 x1.kind) ∧ w'.cell? ⟨b, o + 5 + 1, none⟩ = some (.string x1.text) ∧ w'.cell? ⟨b, o + 5 + 2, none⟩ = some (.string x1.more) ∧ w'.cell? ⟨b, o + 5 + 3, none⟩ = some (.int .u64 x1.num) ∧ w'.cell? ⟨b, o + 5 + 4, none⟩ = some (.slice x1.ao x1.kids.length x1.cap))) (go_keep) (first | (go_at_call 76; refine (nodeOfPropertyKey d hU x0 D _ (by first | exact HL0.out.below HB1.out | exact HL0.out.below (HB1.out.drew) | exact HL0.out.below ‹Below w.heap.size w _› | exact HL0.out.below (Below.drew ‹Below w.heap.size w _›)) HG0.out HK0.out).mono ?_; rintro e c0w ⟨b0, rfl, hR0, hb0⟩; have HZ0 : Below w.heap.size w c0w := (by first | exact Below.trans ‹Below w.heap.size w _› (hb0.mono (Below.size ‹Below w.heap.size w _›)) | exact Below.trans (Below.drew ‹Below w.heap.size w _›) (hb0.mono (by have := Below.size ‹Below w.heap.size w _›; simpa using this)) | exact HB1.out.trans (hb0.mono HB1.out.size) | exact (HB1.out.drew).trans (hb0.mono (by have := HB1.out.size; simpa using this))); have hz0 : w.heap.size < c0w.heap.size := (by have h := hb0.size; (try simp at h); omega); obtain ⟨ka0, -⟩ := bblk hb0 (b := w.heap.size) (by first | omega | (simp; omega)); obtain ⟨kb0, -⟩ := bblk hb0 (b := b) (by first | omega | (simp; omega))) | (go_at_call 66; refine (maybeExpression_none x1 _ HK1.out).mono ?_; rintro e c1w ⟨rfl, hb1⟩; have HZ1 : Below w.heap.size w c1w := (by first | exact Below.trans ‹Below w.heap.size w _› (hb1.mono (Below.size ‹Below w.heap.size w _›)) | exact Below.trans (Below.drew ‹Below w.heap.size w _›) (hb1.mono (by have := Below.size ‹Below w.heap.size w _›; simpa using this)) | exact HB1.out.trans (hb1.mono HB1.out.size) | exact (HB1.out.drew).trans (hb1.mono (by have := HB1.out.size; simpa using this))); have hz1 : w.heap.size < c1w.heap.size := (by have h := hb1.size; (try simp at h); omega); obtain ⟨ka1, -⟩ := bblk hb1 (b := w.heap.size) (by first | omega | (simp; omega)); obtain ⟨kb1, -⟩ := bblk hb1 (b := b) (by first | omega | (simp; omega))))
  go_wp2_with fail
  go_ret
  refine unpost _ ptrTy_29 sTy_29 rfl HZ1 ?_
  rw [slots_29 _ rfl]
  exact ⟨rfl, rfl, rfl, ⟨b0, rfl, (((hR0.mono (From.le (by first | omega | (simp; omega)))).below (by first | exact hb1 | (have h := hb1; simpa using h))).below ((Below.refl _ _).alloc (Nat.le_refl _) _))⟩, rfl, Or.inl ⟨HK1.out, rfl⟩, rfl, trivial⟩

end Go.Proofs.YtongafghllkomaaGreatDoor
