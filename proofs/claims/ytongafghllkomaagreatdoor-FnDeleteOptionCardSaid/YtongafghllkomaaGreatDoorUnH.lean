/-
  unnode kind by kind, part H: what it lays, given its own contract a level down. No conditions.
-/
import Derived.Test.YtongafghllkomaaGreatDoorOps2
namespace Go.Proofs.YtongafghllkomaaGreatDoor
open Go.RowKit
set_option linter.unusedVariables false

set_option maxRecDepth 100000 in
set_option maxHeartbeats 2000000 in
theorem un_21 (d : Nat) (hU : UnC d) (n : Nd) (D : Nat) (w : World) (hL : LiesD D w n) (hG : PreD (d + 1) n) (hk : n.kind = 21) :
    Calls Tryz.prog 31 #[n.val] w (UnPost (d + 1) n w) := by
  obtain ⟨D, rfl⟩ : ∃ E, D = E + 1 := by cases D with | zero => exact hL.elim | succ E => exact ⟨E, rfl⟩
  obtain ⟨k, t, m, u, ao, cap, kids⟩ := n
  obtain rfl : k = 21 := hk
  have hn0 : (Nd.mk 21 t m u ao cap kids).kind ≠ 0 := by show (21 : Int) ≠ 0; decide
  have hn1 : (Nd.mk 21 t m u ao cap kids).kind ≠ 1 := by show (21 : Int) ≠ 1; decide
  have hln : kids.length = 2 := by
    have h1 := ((hG.fit hn0).2.2.2.1 hn1)
    have e1 : (fixedL 21).length = 2 := by decide
    have e2 : restL 21 = 28 := by decide
    simp only [Nd.kind, Nd.kids] at h1
    rw [e1, e2] at h1
    omega
  obtain ⟨x0, x1, rfl⟩ : ∃ x0 x1, kids = [x0, x1] := kids2 (n := Nd.mk 21 t m u ao cap kids) hln
  obtain ⟨b, o, hao0, p00, p01, p02, p03, p04, hLx0⟩ := kid_cells (j := 0) hL rfl (Below.refl _ _)
  obtain rfl : ao = some ⟨b, o, none⟩ := hao0
  obtain ⟨hP0, hC0⟩ := hG.kid (i := 0) (x := x0) hn0 rfl
  obtain ⟨bq, oq, hao1, p10, p11, p12, p13, p14, hLx1⟩ := kid_cells (j := 1) hL rfl (Below.refl _ _)
  cases hao1
  obtain ⟨hP1, hC1⟩ := hG.kid (i := 1) (x := x1) hn0 rfl
  have hk0 : x0.kind ∈ exprL := class_0 (hC0 hn1)
  have hk1 : x1.kind ∈ exprL := class_0 (hC1 hn1)
  obtain ⟨mm, hmm, -, -, ht⟩ := (hG.fit hn0).2.2.1.2.2.2.2.2.1 rfl
  obtain rfl : t = op mm := ht
  have HON := Lib.hid (opNum_op hmm)
  simp only [Nat.zero_mul, Nat.add_zero, Nat.one_mul] at p00 p01 p02 p03 p04 p10 p11 p12 p13 p14
  have HG0 := Lib.hid (hP0.good (expr_walk hk0))
  have HK0 := Lib.hid hk0
  have HL0 := Lib.hid hLx0
  have HG1 := Lib.hid (hP1.good (expr_walk hk1))
  have HK1 := Lib.hid hk1
  have HL1 := Lib.hid hLx1
  have hblt : b < w.heap.size := World.block_lt_of_cell? _ _ p00
  clear hn0 hn1 hln hL hG hP0 hC0 hk0 hLx0 hP1 hC1 hk1 hLx1
  show Calls _ _ #[.agg #[.int .i64 21, .string (op mm), .string m, .int .u64 u, .slice (some ⟨b, o, none⟩) 2 cap]] w _
  go_enter Tryz.func31, Tryz.ntmps31
  go_wp2_with fail
  refine (exactly_any _ _ _ _ _ 2 _ _).mono ?_
  rintro e w1 ⟨rfl, hb1⟩
  have hz1 : w.heap.size < w1.heap.size := by have := hb1.size; simp at this; omega
  have HB1 := Lib.hid (((Below.refl w.heap.size w).alloc (Nat.le_refl _) _).trans (hb1.mono (by simp)))
  obtain ⟨k0, -⟩ := bblk hb1 (b := w.heap.size) (by simp)
  obtain ⟨k1, -⟩ := bblk hb1 (b := b) (by simp; omega)
  clear hb1
  go_wp2_with fail
  go_region_held3 (fun w' => (w'.cell? ⟨w.heap.size, 4, none⟩ = some (.slice (some ⟨b, o, none⟩) 2 cap) ∧ w'.cell? ⟨b, o, none⟩ = some (.int .i64 x0.kind) ∧ w'.cell? ⟨b, o + 1, none⟩ = some (.string x0.text) ∧ w'.cell? ⟨b, o + 2, none⟩ = some (.string x0.more) ∧ w'.cell? ⟨b, o + 3, none⟩ = some (.int .u64 x0.num) ∧ w'.cell? ⟨b, o + 4, none⟩ = some (.slice x0.ao x0.kids.length x0.cap) ∧ w'.cell? ⟨b, o + 5, none⟩ = some (.int .i64 x1.kind) ∧ w'.cell? ⟨b, o + 5 + 1, none⟩ = some (.string x1.text) ∧ w'.cell? ⟨b, o + 5 + 2, none⟩ = some (.string x1.more) ∧ w'.cell? ⟨b, o + 5 + 3, none⟩ = some (.int .u64 x1.num) ∧ w'.cell? ⟨b, o + 5 + 4, none⟩ = some (.slice x1.ao x1.kids.length x1.cap) ∧ w'.cell? ⟨w.heap.size, 1, none⟩ = some (.string (op mm)))) (go_keep) (first | (go_at_call_of 66 x0.text; refine (maybeExpression_some d hU x0 D _ (by first | exact HL0.out.below HB1.out | exact HL0.out.below (HB1.out.drew) | exact HL0.out.below ‹Below w.heap.size w _› | exact HL0.out.below (Below.drew ‹Below w.heap.size w _›)) HG0.out HK0.out).mono ?_; rintro e c0w ⟨b0, rfl, hR0, hb0⟩; have HZ0 : Below w.heap.size w c0w := (by first | exact Below.trans ‹Below w.heap.size w _› (hb0.mono (Below.size ‹Below w.heap.size w _›)) | exact Below.trans (Below.drew ‹Below w.heap.size w _›) (hb0.mono (by have := Below.size ‹Below w.heap.size w _›; simpa using this)) | exact HB1.out.trans (hb0.mono HB1.out.size) | exact (HB1.out.drew).trans (hb0.mono (by have := HB1.out.size; simpa using this))); have hz0 : w.heap.size < c0w.heap.size := (by have h := hb0.size; (try simp at h); omega); obtain ⟨ka0, -⟩ := bblk hb0 (b := w.heap.size) (by first | omega | (simp; omega)); obtain ⟨kb0, -⟩ := bblk hb0 (b := b) (by first | omega | (simp; omega))) | (go_at_call_of 66 x1.text; refine (maybeExpression_some d hU x1 D _ (by first | exact HL1.out.below HB1.out | exact HL1.out.below (HB1.out.drew) | exact HL1.out.below ‹Below w.heap.size w _› | exact HL1.out.below (Below.drew ‹Below w.heap.size w _›)) HG1.out HK1.out).mono ?_; rintro e c1w ⟨b1, rfl, hR1, hb1⟩; have HZ1 : Below w.heap.size w c1w := (by first | exact Below.trans ‹Below w.heap.size w _› (hb1.mono (Below.size ‹Below w.heap.size w _›)) | exact Below.trans (Below.drew ‹Below w.heap.size w _›) (hb1.mono (by have := Below.size ‹Below w.heap.size w _›; simpa using this)) | exact HB1.out.trans (hb1.mono HB1.out.size) | exact (HB1.out.drew).trans (hb1.mono (by have := HB1.out.size; simpa using this))); have hz1 : w.heap.size < c1w.heap.size := (by have h := hb1.size; (try simp at h); omega); obtain ⟨ka1, -⟩ := bblk hb1 (b := w.heap.size) (by first | omega | (simp; omega)); obtain ⟨kb1, -⟩ := bblk hb1 (b := b) (by first | omega | (simp; omega))) | (go_at_call 79; refine (operator_any mm hmm _).mono ?_; rintro e c9w ⟨rfl, rfl⟩))
  go_wp2_with fail
  go_ret
  refine unpost _ ptrTy_21 sTy_21 rfl HZ1 ?_
  rw [slots_21 _ rfl]
  exact ⟨rfl, rfl, rfl, (congrArg (Value.int .i64) HON.out.symm : (Value.int .i64 ((mm : Int) + 1)) = .int .i64 (opNum (op mm))), ⟨b0, rfl, (((hR0.mono (From.le (by first | omega | (simp; omega)))).below (by first | exact hb1 | (have h := hb1; simpa using h))).below ((Below.refl _ _).alloc (Nat.le_refl _) _))⟩, ⟨b1, rfl, ((hR1.mono (From.le (by first | omega | (simp; omega)))).below ((Below.refl _ _).alloc (Nat.le_refl _) _))⟩, trivial⟩

set_option maxRecDepth 100000 in
set_option maxHeartbeats 2000000 in
theorem un_22 (d : Nat) (hU : UnC d) (n : Nd) (D : Nat) (w : World) (hL : LiesD D w n) (hG : PreD (d + 1) n) (hk : n.kind = 22) :
    Calls Tryz.prog 31 #[n.val] w (UnPost (d + 1) n w) := by
  obtain ⟨D, rfl⟩ : ∃ E, D = E + 1 := by cases D with | zero => exact hL.elim | succ E => exact ⟨E, rfl⟩
  obtain ⟨k, t, m, u, ao, cap, kids⟩ := n
  obtain rfl : k = 22 := hk
  have hn0 : (Nd.mk 22 t m u ao cap kids).kind ≠ 0 := by show (22 : Int) ≠ 0; decide
  have hn1 : (Nd.mk 22 t m u ao cap kids).kind ≠ 1 := by show (22 : Int) ≠ 1; decide
  have hln : kids.length = 1 := by
    have h1 := ((hG.fit hn0).2.2.2.1 hn1)
    have e1 : (fixedL 22).length = 1 := by decide
    have e2 : restL 22 = 28 := by decide
    simp only [Nd.kind, Nd.kids] at h1
    rw [e1, e2] at h1
    omega
  obtain ⟨x0, rfl⟩ : ∃ x0, kids = [x0] := kids1 (n := Nd.mk 22 t m u ao cap kids) hln
  obtain ⟨b, o, hao0, p00, p01, p02, p03, p04, hLx0⟩ := kid_cells (j := 0) hL rfl (Below.refl _ _)
  obtain rfl : ao = some ⟨b, o, none⟩ := hao0
  obtain ⟨hP0, hC0⟩ := hG.kid (i := 0) (x := x0) hn0 rfl
  have hk0 : x0.kind ∈ exprL := class_0 (hC0 hn1)
  obtain ⟨mm, hmm, ht⟩ := unary_op ((hG.fit hn0).2.2.1.2.2.2.2.2.2.1 rfl)
  obtain rfl : t = op mm := ht
  have HON := Lib.hid (opNum_op hmm)
  simp only [Nat.zero_mul, Nat.add_zero] at p00 p01 p02 p03 p04
  have HG0 := Lib.hid (hP0.good (expr_walk hk0))
  have HK0 := Lib.hid hk0
  have HL0 := Lib.hid hLx0
  have hblt : b < w.heap.size := World.block_lt_of_cell? _ _ p00
  clear hn0 hn1 hln hL hG hP0 hC0 hk0 hLx0
  show Calls _ _ #[.agg #[.int .i64 22, .string (op mm), .string m, .int .u64 u, .slice (some ⟨b, o, none⟩) 1 cap]] w _
  go_enter Tryz.func31, Tryz.ntmps31
  go_wp2_with fail
  refine (exactly_any _ _ _ _ _ 1 _ _).mono ?_
  rintro e w1 ⟨rfl, hb1⟩
  have hz1 : w.heap.size < w1.heap.size := by have := hb1.size; simp at this; omega
  have HB1 := Lib.hid (((Below.refl w.heap.size w).alloc (Nat.le_refl _) _).trans (hb1.mono (by simp)))
  obtain ⟨k0, -⟩ := bblk hb1 (b := w.heap.size) (by simp)
  obtain ⟨k1, -⟩ := bblk hb1 (b := b) (by simp; omega)
  clear hb1
  go_wp2_with fail
  go_region_held3 (fun w' => (w'.cell? ⟨w.heap.size, 4, none⟩ = some (.slice (some ⟨b, o, none⟩) 1 cap) ∧ w'.cell? ⟨b, o, none⟩ = some (.int .i64 x0.kind) ∧ w'.cell? ⟨b, o + 1, none⟩ = some (.string x0.text) ∧ w'.cell? ⟨b, o + 2, none⟩ = some (.string x0.more) ∧ w'.cell? ⟨b, o + 3, none⟩ = some (.int .u64 x0.num) ∧ w'.cell? ⟨b, o + 4, none⟩ = some (.slice x0.ao x0.kids.length x0.cap) ∧ w'.cell? ⟨w.heap.size, 1, none⟩ = some (.string (op mm)))) (go_keep) (first | (go_at_call 73; refine (nodeOfExpression d hU x0 D _ (by first | exact HL0.out.below HB1.out | exact HL0.out.below (HB1.out.drew) | exact HL0.out.below ‹Below w.heap.size w _› | exact HL0.out.below (Below.drew ‹Below w.heap.size w _›)) HG0.out HK0.out).mono ?_; rintro e c0w ⟨b0, rfl, hR0, hb0⟩; have HZ0 : Below w.heap.size w c0w := (by first | exact Below.trans ‹Below w.heap.size w _› (hb0.mono (Below.size ‹Below w.heap.size w _›)) | exact Below.trans (Below.drew ‹Below w.heap.size w _›) (hb0.mono (by have := Below.size ‹Below w.heap.size w _›; simpa using this)) | exact HB1.out.trans (hb0.mono HB1.out.size) | exact (HB1.out.drew).trans (hb0.mono (by have := HB1.out.size; simpa using this))); have hz0 : w.heap.size < c0w.heap.size := (by have h := hb0.size; (try simp at h); omega); obtain ⟨ka0, -⟩ := bblk hb0 (b := w.heap.size) (by first | omega | (simp; omega)); obtain ⟨kb0, -⟩ := bblk hb0 (b := b) (by first | omega | (simp; omega))) | (go_at_call 79; refine (operator_any mm hmm _).mono ?_; rintro e c9w ⟨rfl, rfl⟩))
  go_wp2_with fail
  go_ret
  refine unpost _ ptrTy_22 sTy_22 rfl HZ0 ?_
  rw [slots_22 _ rfl]
  exact ⟨rfl, rfl, rfl, (congrArg (Value.int .i64) HON.out.symm : (Value.int .i64 ((mm : Int) + 1)) = .int .i64 (opNum (op mm))), ⟨b0, rfl, ((hR0.mono (From.le (by first | omega | (simp; omega)))).below ((Below.refl _ _).alloc (Nat.le_refl _) _))⟩, trivial⟩

set_option maxRecDepth 100000 in
set_option maxHeartbeats 2000000 in
theorem un_23_and (d : Nat) (hU : UnC d) (n : Nd) (D : Nat) (w : World) (hL : LiesD D w n) (hG : PreD (d + 1) n) (hk : n.kind = 23) (ht : n.text = ⟨#[97, 110, 100]⟩) :
    Calls Tryz.prog 31 #[n.val] w (UnPost (d + 1) n w) := by
  obtain ⟨D, rfl⟩ : ∃ E, D = E + 1 := by cases D with | zero => exact hL.elim | succ E => exact ⟨E, rfl⟩
  obtain ⟨k, t, m, u, ao, cap, kids⟩ := n
  obtain rfl : k = 23 := hk
  have hn0 : (Nd.mk 23 t m u ao cap kids).kind ≠ 0 := by show (23 : Int) ≠ 0; decide
  have hn1 : (Nd.mk 23 t m u ao cap kids).kind ≠ 1 := by show (23 : Int) ≠ 1; decide
  have hln : kids.length = 2 := by
    have h1 := ((hG.fit hn0).2.2.2.1 hn1)
    have e1 : (fixedL 23).length = 2 := by decide
    have e2 : restL 23 = 28 := by decide
    simp only [Nd.kind, Nd.kids] at h1
    rw [e1, e2] at h1
    omega
  obtain ⟨x0, x1, rfl⟩ : ∃ x0 x1, kids = [x0, x1] := kids2 (n := Nd.mk 23 t m u ao cap kids) hln
  obtain ⟨b, o, hao0, p00, p01, p02, p03, p04, hLx0⟩ := kid_cells (j := 0) hL rfl (Below.refl _ _)
  obtain rfl : ao = some ⟨b, o, none⟩ := hao0
  obtain ⟨hP0, hC0⟩ := hG.kid (i := 0) (x := x0) hn0 rfl
  obtain ⟨bq, oq, hao1, p10, p11, p12, p13, p14, hLx1⟩ := kid_cells (j := 1) hL rfl (Below.refl _ _)
  cases hao1
  obtain ⟨hP1, hC1⟩ := hG.kid (i := 1) (x := x1) hn0 rfl
  have hk0 : x0.kind ∈ exprL := class_0 (hC0 hn1)
  have hk1 : x1.kind ∈ exprL := class_0 (hC1 hn1)
  obtain rfl : t = ⟨#[97, 110, 100]⟩ := ht
  simp only [Nat.zero_mul, Nat.add_zero, Nat.one_mul] at p00 p01 p02 p03 p04 p10 p11 p12 p13 p14
  have HG0 := Lib.hid (hP0.good (expr_walk hk0))
  have HK0 := Lib.hid hk0
  have HL0 := Lib.hid hLx0
  have HG1 := Lib.hid (hP1.good (expr_walk hk1))
  have HK1 := Lib.hid hk1
  have HL1 := Lib.hid hLx1
  have hblt : b < w.heap.size := World.block_lt_of_cell? _ _ p00
  clear hn0 hn1 hln hL hG hP0 hC0 hk0 hLx0 hP1 hC1 hk1 hLx1
  show Calls _ _ #[.agg #[.int .i64 23, .string ⟨#[97, 110, 100]⟩, .string m, .int .u64 u, .slice (some ⟨b, o, none⟩) 2 cap]] w _
  go_enter Tryz.func31, Tryz.ntmps31
  go_wp2_with fail
  refine (exactly_any _ _ _ _ _ 2 _ _).mono ?_
  rintro e w1 ⟨rfl, hb1⟩
  have hz1 : w.heap.size < w1.heap.size := by have := hb1.size; simp at this; omega
  have HB1 := Lib.hid (((Below.refl w.heap.size w).alloc (Nat.le_refl _) _).trans (hb1.mono (by simp)))
  obtain ⟨k0, -⟩ := bblk hb1 (b := w.heap.size) (by simp)
  obtain ⟨k1, -⟩ := bblk hb1 (b := b) (by simp; omega)
  clear hb1
  go_wp2_with fail
  go_region_held3 (fun w' => (w'.cell? ⟨w.heap.size, 4, none⟩ = some (.slice (some ⟨b, o, none⟩) 2 cap) ∧ w'.cell? ⟨b, o, none⟩ = some (.int .i64 x0.kind) ∧ w'.cell? ⟨b, o + 1, none⟩ = some (.string x0.text) ∧ w'.cell? ⟨b, o + 2, none⟩ = some (.string x0.more) ∧ w'.cell? ⟨b, o + 3, none⟩ = some (.int .u64 x0.num) ∧ w'.cell? ⟨b, o + 4, none⟩ = some (.slice x0.ao x0.kids.length x0.cap) ∧ w'.cell? ⟨b, o + 5, none⟩ = some (.int .i64 x1.kind) ∧ w'.cell? ⟨b, o + 5 + 1, none⟩ = some (.string x1.text) ∧ w'.cell? ⟨b, o + 5 + 2, none⟩ = some (.string x1.more) ∧ w'.cell? ⟨b, o + 5 + 3, none⟩ = some (.int .u64 x1.num) ∧ w'.cell? ⟨b, o + 5 + 4, none⟩ = some (.slice x1.ao x1.kids.length x1.cap) ∧ w'.cell? ⟨w.heap.size, 1, none⟩ = some (.string ⟨#[97, 110, 100]⟩))) (go_keep) (first | (go_at_call_of 73 x0.text; refine (nodeOfExpression d hU x0 D _ (by first | exact HL0.out.below HB1.out | exact HL0.out.below (HB1.out.drew) | exact HL0.out.below ‹Below w.heap.size w _› | exact HL0.out.below (Below.drew ‹Below w.heap.size w _›)) HG0.out HK0.out).mono ?_; rintro e c0w ⟨b0, rfl, hR0, hb0⟩; have HZ0 : Below w.heap.size w c0w := (by first | exact Below.trans ‹Below w.heap.size w _› (hb0.mono (Below.size ‹Below w.heap.size w _›)) | exact Below.trans (Below.drew ‹Below w.heap.size w _›) (hb0.mono (by have := Below.size ‹Below w.heap.size w _›; simpa using this)) | exact HB1.out.trans (hb0.mono HB1.out.size) | exact (HB1.out.drew).trans (hb0.mono (by have := HB1.out.size; simpa using this))); have hz0 : w.heap.size < c0w.heap.size := (by have h := hb0.size; (try simp at h); omega); obtain ⟨ka0, -⟩ := bblk hb0 (b := w.heap.size) (by first | omega | (simp; omega)); obtain ⟨kb0, -⟩ := bblk hb0 (b := b) (by first | omega | (simp; omega))) | (go_at_call_of 73 x1.text; refine (nodeOfExpression d hU x1 D _ (by first | exact HL1.out.below HB1.out | exact HL1.out.below (HB1.out.drew) | exact HL1.out.below ‹Below w.heap.size w _› | exact HL1.out.below (Below.drew ‹Below w.heap.size w _›)) HG1.out HK1.out).mono ?_; rintro e c1w ⟨b1, rfl, hR1, hb1⟩; have HZ1 : Below w.heap.size w c1w := (by first | exact Below.trans ‹Below w.heap.size w _› (hb1.mono (Below.size ‹Below w.heap.size w _›)) | exact Below.trans (Below.drew ‹Below w.heap.size w _›) (hb1.mono (by have := Below.size ‹Below w.heap.size w _›; simpa using this)) | exact HB1.out.trans (hb1.mono HB1.out.size) | exact (HB1.out.drew).trans (hb1.mono (by have := HB1.out.size; simpa using this))); have hz1 : w.heap.size < c1w.heap.size := (by have h := hb1.size; (try simp at h); omega); obtain ⟨ka1, -⟩ := bblk hb1 (b := w.heap.size) (by first | omega | (simp; omega)); obtain ⟨kb1, -⟩ := bblk hb1 (b := b) (by first | omega | (simp; omega))) | (go_at_call 80; refine (logical_and _).mono ?_; rintro e c9w ⟨rfl, rfl⟩))
  go_wp2_with fail
  go_ret
  refine unpost _ ptrTy_23 sTy_23 rfl HZ1 ?_
  rw [slots_23 _ rfl]
  exact ⟨rfl, rfl, rfl, congrArg (Value.int .i64) logNum_and.symm, ⟨b0, rfl, (((hR0.mono (From.le (by first | omega | (simp; omega)))).below (by first | exact hb1 | (have h := hb1; simpa using h))).below ((Below.refl _ _).alloc (Nat.le_refl _) _))⟩, ⟨b1, rfl, ((hR1.mono (From.le (by first | omega | (simp; omega)))).below ((Below.refl _ _).alloc (Nat.le_refl _) _))⟩, trivial⟩

set_option maxRecDepth 100000 in
set_option maxHeartbeats 2000000 in
theorem un_23_or (d : Nat) (hU : UnC d) (n : Nd) (D : Nat) (w : World) (hL : LiesD D w n) (hG : PreD (d + 1) n) (hk : n.kind = 23) (ht : n.text = ⟨#[111, 114]⟩) :
    Calls Tryz.prog 31 #[n.val] w (UnPost (d + 1) n w) := by
  obtain ⟨D, rfl⟩ : ∃ E, D = E + 1 := by cases D with | zero => exact hL.elim | succ E => exact ⟨E, rfl⟩
  obtain ⟨k, t, m, u, ao, cap, kids⟩ := n
  obtain rfl : k = 23 := hk
  have hn0 : (Nd.mk 23 t m u ao cap kids).kind ≠ 0 := by show (23 : Int) ≠ 0; decide
  have hn1 : (Nd.mk 23 t m u ao cap kids).kind ≠ 1 := by show (23 : Int) ≠ 1; decide
  have hln : kids.length = 2 := by
    have h1 := ((hG.fit hn0).2.2.2.1 hn1)
    have e1 : (fixedL 23).length = 2 := by decide
    have e2 : restL 23 = 28 := by decide
    simp only [Nd.kind, Nd.kids] at h1
    rw [e1, e2] at h1
    omega
  obtain ⟨x0, x1, rfl⟩ : ∃ x0 x1, kids = [x0, x1] := kids2 (n := Nd.mk 23 t m u ao cap kids) hln
  obtain ⟨b, o, hao0, p00, p01, p02, p03, p04, hLx0⟩ := kid_cells (j := 0) hL rfl (Below.refl _ _)
  obtain rfl : ao = some ⟨b, o, none⟩ := hao0
  obtain ⟨hP0, hC0⟩ := hG.kid (i := 0) (x := x0) hn0 rfl
  obtain ⟨bq, oq, hao1, p10, p11, p12, p13, p14, hLx1⟩ := kid_cells (j := 1) hL rfl (Below.refl _ _)
  cases hao1
  obtain ⟨hP1, hC1⟩ := hG.kid (i := 1) (x := x1) hn0 rfl
  have hk0 : x0.kind ∈ exprL := class_0 (hC0 hn1)
  have hk1 : x1.kind ∈ exprL := class_0 (hC1 hn1)
  obtain rfl : t = ⟨#[111, 114]⟩ := ht
  simp only [Nat.zero_mul, Nat.add_zero, Nat.one_mul] at p00 p01 p02 p03 p04 p10 p11 p12 p13 p14
  have HG0 := Lib.hid (hP0.good (expr_walk hk0))
  have HK0 := Lib.hid hk0
  have HL0 := Lib.hid hLx0
  have HG1 := Lib.hid (hP1.good (expr_walk hk1))
  have HK1 := Lib.hid hk1
  have HL1 := Lib.hid hLx1
  have hblt : b < w.heap.size := World.block_lt_of_cell? _ _ p00
  clear hn0 hn1 hln hL hG hP0 hC0 hk0 hLx0 hP1 hC1 hk1 hLx1
  show Calls _ _ #[.agg #[.int .i64 23, .string ⟨#[111, 114]⟩, .string m, .int .u64 u, .slice (some ⟨b, o, none⟩) 2 cap]] w _
  go_enter Tryz.func31, Tryz.ntmps31
  go_wp2_with fail
  refine (exactly_any _ _ _ _ _ 2 _ _).mono ?_
  rintro e w1 ⟨rfl, hb1⟩
  have hz1 : w.heap.size < w1.heap.size := by have := hb1.size; simp at this; omega
  have HB1 := Lib.hid (((Below.refl w.heap.size w).alloc (Nat.le_refl _) _).trans (hb1.mono (by simp)))
  obtain ⟨k0, -⟩ := bblk hb1 (b := w.heap.size) (by simp)
  obtain ⟨k1, -⟩ := bblk hb1 (b := b) (by simp; omega)
  clear hb1
  go_wp2_with fail
  go_region_held3 (fun w' => (w'.cell? ⟨w.heap.size, 4, none⟩ = some (.slice (some ⟨b, o, none⟩) 2 cap) ∧ w'.cell? ⟨b, o, none⟩ = some (.int .i64 x0.kind) ∧ w'.cell? ⟨b, o + 1, none⟩ = some (.string x0.text) ∧ w'.cell? ⟨b, o + 2, none⟩ = some (.string x0.more) ∧ w'.cell? ⟨b, o + 3, none⟩ = some (.int .u64 x0.num) ∧ w'.cell? ⟨b, o + 4, none⟩ = some (.slice x0.ao x0.kids.length x0.cap) ∧ w'.cell? ⟨b, o + 5, none⟩ = some (.int .i64 x1.kind) ∧ w'.cell? ⟨b, o + 5 + 1, none⟩ = some (.string x1.text) ∧ w'.cell? ⟨b, o + 5 + 2, none⟩ = some (.string x1.more) ∧ w'.cell? ⟨b, o + 5 + 3, none⟩ = some (.int .u64 x1.num) ∧ w'.cell? ⟨b, o + 5 + 4, none⟩ = some (.slice x1.ao x1.kids.length x1.cap) ∧ w'.cell? ⟨w.heap.size, 1, none⟩ = some (.string ⟨#[111, 114]⟩))) (go_keep) (first | (go_at_call_of 73 x0.text; refine (nodeOfExpression d hU x0 D _ (by first | exact HL0.out.below HB1.out | exact HL0.out.below (HB1.out.drew) | exact HL0.out.below ‹Below w.heap.size w _› | exact HL0.out.below (Below.drew ‹Below w.heap.size w _›)) HG0.out HK0.out).mono ?_; rintro e c0w ⟨b0, rfl, hR0, hb0⟩; have HZ0 : Below w.heap.size w c0w := (by first | exact Below.trans ‹Below w.heap.size w _› (hb0.mono (Below.size ‹Below w.heap.size w _›)) | exact Below.trans (Below.drew ‹Below w.heap.size w _›) (hb0.mono (by have := Below.size ‹Below w.heap.size w _›; simpa using this)) | exact HB1.out.trans (hb0.mono HB1.out.size) | exact (HB1.out.drew).trans (hb0.mono (by have := HB1.out.size; simpa using this))); have hz0 : w.heap.size < c0w.heap.size := (by have h := hb0.size; (try simp at h); omega); obtain ⟨ka0, -⟩ := bblk hb0 (b := w.heap.size) (by first | omega | (simp; omega)); obtain ⟨kb0, -⟩ := bblk hb0 (b := b) (by first | omega | (simp; omega))) | (go_at_call_of 73 x1.text; refine (nodeOfExpression d hU x1 D _ (by first | exact HL1.out.below HB1.out | exact HL1.out.below (HB1.out.drew) | exact HL1.out.below ‹Below w.heap.size w _› | exact HL1.out.below (Below.drew ‹Below w.heap.size w _›)) HG1.out HK1.out).mono ?_; rintro e c1w ⟨b1, rfl, hR1, hb1⟩; have HZ1 : Below w.heap.size w c1w := (by first | exact Below.trans ‹Below w.heap.size w _› (hb1.mono (Below.size ‹Below w.heap.size w _›)) | exact Below.trans (Below.drew ‹Below w.heap.size w _›) (hb1.mono (by have := Below.size ‹Below w.heap.size w _›; simpa using this)) | exact HB1.out.trans (hb1.mono HB1.out.size) | exact (HB1.out.drew).trans (hb1.mono (by have := HB1.out.size; simpa using this))); have hz1 : w.heap.size < c1w.heap.size := (by have h := hb1.size; (try simp at h); omega); obtain ⟨ka1, -⟩ := bblk hb1 (b := w.heap.size) (by first | omega | (simp; omega)); obtain ⟨kb1, -⟩ := bblk hb1 (b := b) (by first | omega | (simp; omega))) | (go_at_call 80; refine (logical_or _).mono ?_; rintro e c9w ⟨rfl, rfl⟩))
  go_wp2_with fail
  go_ret
  refine unpost _ ptrTy_23 sTy_23 rfl HZ1 ?_
  rw [slots_23 _ rfl]
  exact ⟨rfl, rfl, rfl, congrArg (Value.int .i64) logNum_or.symm, ⟨b0, rfl, (((hR0.mono (From.le (by first | omega | (simp; omega)))).below (by first | exact hb1 | (have h := hb1; simpa using h))).below ((Below.refl _ _).alloc (Nat.le_refl _) _))⟩, ⟨b1, rfl, ((hR1.mono (From.le (by first | omega | (simp; omega)))).below ((Below.refl _ _).alloc (Nat.le_refl _) _))⟩, trivial⟩

end Go.Proofs.YtongafghllkomaaGreatDoor
