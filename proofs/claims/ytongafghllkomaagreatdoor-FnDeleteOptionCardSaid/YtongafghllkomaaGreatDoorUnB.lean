/-
  unnode kind by kind, part B: what it lays, given its own contract a level down. No conditions.
-/
import Derived.Test.YtongafghllkomaaGreatDoorTests
namespace Go.Proofs.YtongafghllkomaaGreatDoor
open Go.RowKit
set_option linter.unusedVariables false

set_option maxRecDepth 100000 in
set_option maxHeartbeats 2000000 in
theorem un_4 (d : Nat) (hU : UnC d) (n : Nd) (D : Nat) (w : World) (hL : LiesD D w n) (hG : PreD (d + 1) n) (hk : n.kind = 4) :
    Calls Tryz.prog 31 #[n.val] w (UnPost (d + 1) n w) := by
  obtain ⟨D, rfl⟩ : ∃ E, D = E + 1 := by cases D with | zero => exact hL.elim | succ E => exact ⟨E, rfl⟩
  obtain ⟨k, t, m, u, ao, cap, kids⟩ := n
  obtain rfl : k = 4 := hk
  have hn0 : (Nd.mk 4 t m u ao cap kids).kind ≠ 0 := by show (4 : Int) ≠ 0; decide
  have hn1 : (Nd.mk 4 t m u ao cap kids).kind ≠ 1 := by show (4 : Int) ≠ 1; decide
  have hln : kids.length = 1 := by
    have h1 := ((hG.fit hn0).2.2.2.1 hn1)
    have e1 : (fixedL 4).length = 1 := by decide
    have e2 : restL 4 = 28 := by decide
    simp only [Nd.kind, Nd.kids] at h1
    rw [e1, e2] at h1
    omega
  obtain ⟨x0, rfl⟩ : ∃ x0, kids = [x0] := kids1 (n := Nd.mk 4 t m u ao cap kids) hln
  obtain ⟨b, o, hao0, p00, p01, p02, p03, p04, hLx0⟩ := kid_cells (j := 0) hL rfl (Below.refl _ _)
  obtain rfl : ao = some ⟨b, o, none⟩ := hao0
  obtain ⟨hP0, hC0⟩ := hG.kid (i := 0) (x := x0) hn0 rfl
  have hk0 : x0.kind = 33 := by simpa using class_few [33] rfl (hC0 hn1)
  simp only [Nat.zero_mul, Nat.add_zero] at p00 p01 p02 p03 p04
  have HG0 := Lib.hid (hP0.good (by rw [hk0]; decide))
  have HK0 := Lib.hid hk0
  have HL0 := Lib.hid hLx0
  have hblt : b < w.heap.size := World.block_lt_of_cell? _ _ p00
  clear hn0 hn1 hln hL hG hP0 hC0 hk0 hLx0
  show Calls _ _ #[.agg #[.int .i64 4, .string t, .string m, .int .u64 u, .slice (some ⟨b, o, none⟩) 1 cap]] w _
  go_enter Tryz.func31, Tryz.ntmps31
  go_wp2_with fail
  refine (exactly_any _ _ _ _ _ 1 _ _).mono ?_
  rintro e w1 ⟨rfl, hb1⟩
  have hz1 : w.heap.size < w1.heap.size := by have := hb1.size; simp at this; omega
  have HB1 := Lib.hid (((Below.refl w.heap.size w).alloc (Nat.le_refl _) _).trans (hb1.mono (by simp)))
  obtain ⟨k0, -⟩ := bblk hb1 (b := w.heap.size) (by simp)
  obtain ⟨k1, -⟩ := bblk hb1 (b := b) (by simp; omega)
  clear hb1
  go_wp2_with (go_at_call 63; refine (nodeOf_33 d hU x0 D _ (by first | exact HL0.out.below HB1.out | exact HL0.out.below (HB1.out.drew) | exact HL0.out.below ‹Below w.heap.size w _› | exact HL0.out.below (Below.drew ‹Below w.heap.size w _›)) HG0.out HK0.out).mono ?_; rintro e c0w ⟨b0, rfl, hR0, hb0⟩; have HZ0 : Below w.heap.size w c0w := (by first | exact Below.trans ‹Below w.heap.size w _› (hb0.mono (Below.size ‹Below w.heap.size w _›)) | exact Below.trans (Below.drew ‹Below w.heap.size w _›) (hb0.mono (by have := Below.size ‹Below w.heap.size w _›; simpa using this)) | exact HB1.out.trans (hb0.mono HB1.out.size) | exact (HB1.out.drew).trans (hb0.mono (by have := HB1.out.size; simpa using this))); have hz0 : w.heap.size < c0w.heap.size := (by have h := hb0.size; (try simp at h); omega); obtain ⟨ka0, -⟩ := bblk hb0 (b := w.heap.size) (by first | omega | (simp; omega)); obtain ⟨kb0, -⟩ := bblk hb0 (b := b) (by first | omega | (simp; omega)))
  go_ret
  refine unpost _ ptrTy_4 sTy_4 rfl HZ0 ?_
  rw [slots_4 _ rfl]
  exact ⟨rfl, rfl, rfl, ⟨b0, rfl, ((hR0.mono (From.le (by first | omega | (simp; omega)))).below ((Below.refl _ _).alloc (Nat.le_refl _) _))⟩, trivial⟩

set_option maxRecDepth 100000 in
set_option maxHeartbeats 2000000 in
theorem un_8 (d : Nat) (hU : UnC d) (n : Nd) (D : Nat) (w : World) (hL : LiesD D w n) (hG : PreD (d + 1) n) (hk : n.kind = 8) :
    Calls Tryz.prog 31 #[n.val] w (UnPost (d + 1) n w) := by
  obtain ⟨D, rfl⟩ : ∃ E, D = E + 1 := by cases D with | zero => exact hL.elim | succ E => exact ⟨E, rfl⟩
  obtain ⟨k, t, m, u, ao, cap, kids⟩ := n
  obtain rfl : k = 8 := hk
  have hn0 : (Nd.mk 8 t m u ao cap kids).kind ≠ 0 := by show (8 : Int) ≠ 0; decide
  have hn1 : (Nd.mk 8 t m u ao cap kids).kind ≠ 1 := by show (8 : Int) ≠ 1; decide
  have hln : kids.length = 1 := by
    have h1 := ((hG.fit hn0).2.2.2.1 hn1)
    have e1 : (fixedL 8).length = 1 := by decide
    have e2 : restL 8 = 28 := by decide
    simp only [Nd.kind, Nd.kids] at h1
    rw [e1, e2] at h1
    omega
  obtain ⟨x0, rfl⟩ : ∃ x0, kids = [x0] := kids1 (n := Nd.mk 8 t m u ao cap kids) hln
  obtain ⟨b, o, hao0, p00, p01, p02, p03, p04, hLx0⟩ := kid_cells (j := 0) hL rfl (Below.refl _ _)
  obtain rfl : ao = some ⟨b, o, none⟩ := hao0
  obtain ⟨hP0, hC0⟩ := hG.kid (i := 0) (x := x0) hn0 rfl
  have hk0 : x0.kind ∈ exprL := class_0 (hC0 hn1)
  simp only [Nat.zero_mul, Nat.add_zero] at p00 p01 p02 p03 p04
  have HG0 := Lib.hid (hP0.good (expr_walk hk0))
  have HK0 := Lib.hid hk0
  have HL0 := Lib.hid hLx0
  have hblt : b < w.heap.size := World.block_lt_of_cell? _ _ p00
  clear hn0 hn1 hln hL hG hP0 hC0 hk0 hLx0
  show Calls _ _ #[.agg #[.int .i64 8, .string t, .string m, .int .u64 u, .slice (some ⟨b, o, none⟩) 1 cap]] w _
  go_enter Tryz.func31, Tryz.ntmps31
  go_wp2_with fail
  refine (exactly_any _ _ _ _ _ 1 _ _).mono ?_
  rintro e w1 ⟨rfl, hb1⟩
  have hz1 : w.heap.size < w1.heap.size := by have := hb1.size; simp at this; omega
  have HB1 := Lib.hid (((Below.refl w.heap.size w).alloc (Nat.le_refl _) _).trans (hb1.mono (by simp)))
  obtain ⟨k0, -⟩ := bblk hb1 (b := w.heap.size) (by simp)
  obtain ⟨k1, -⟩ := bblk hb1 (b := b) (by simp; omega)
  clear hb1
  go_wp2_with (go_at_call 66; refine (maybeExpression_some d hU x0 D _ (by first | exact HL0.out.below HB1.out | exact HL0.out.below (HB1.out.drew) | exact HL0.out.below ‹Below w.heap.size w _› | exact HL0.out.below (Below.drew ‹Below w.heap.size w _›)) HG0.out HK0.out).mono ?_; rintro e c0w ⟨b0, rfl, hR0, hb0⟩; have HZ0 : Below w.heap.size w c0w := (by first | exact Below.trans ‹Below w.heap.size w _› (hb0.mono (Below.size ‹Below w.heap.size w _›)) | exact Below.trans (Below.drew ‹Below w.heap.size w _›) (hb0.mono (by have := Below.size ‹Below w.heap.size w _›; simpa using this)) | exact HB1.out.trans (hb0.mono HB1.out.size) | exact (HB1.out.drew).trans (hb0.mono (by have := HB1.out.size; simpa using this))); have hz0 : w.heap.size < c0w.heap.size := (by have h := hb0.size; (try simp at h); omega); obtain ⟨ka0, -⟩ := bblk hb0 (b := w.heap.size) (by first | omega | (simp; omega)); obtain ⟨kb0, -⟩ := bblk hb0 (b := b) (by first | omega | (simp; omega)))
  go_ret
  refine unpost _ ptrTy_8 sTy_8 rfl HZ0 ?_
  rw [slots_8 _ rfl]
  exact ⟨rfl, rfl, rfl, ⟨b0, rfl, ((hR0.mono (From.le (by first | omega | (simp; omega)))).below ((Below.refl _ _).alloc (Nat.le_refl _) _))⟩, trivial⟩

set_option maxRecDepth 100000 in
set_option maxHeartbeats 2000000 in
theorem un_9 (d : Nat) (hU : UnC d) (n : Nd) (D : Nat) (w : World) (hL : LiesD D w n) (hG : PreD (d + 1) n) (hk : n.kind = 9) :
    Calls Tryz.prog 31 #[n.val] w (UnPost (d + 1) n w) := by
  obtain ⟨D, rfl⟩ : ∃ E, D = E + 1 := by cases D with | zero => exact hL.elim | succ E => exact ⟨E, rfl⟩
  obtain ⟨k, t, m, u, ao, cap, kids⟩ := n
  obtain rfl : k = 9 := hk
  have hn0 : (Nd.mk 9 t m u ao cap kids).kind ≠ 0 := by show (9 : Int) ≠ 0; decide
  have hn1 : (Nd.mk 9 t m u ao cap kids).kind ≠ 1 := by show (9 : Int) ≠ 1; decide
  have hln : kids.length = 1 := by
    have h1 := ((hG.fit hn0).2.2.2.1 hn1)
    have e1 : (fixedL 9).length = 1 := by decide
    have e2 : restL 9 = 28 := by decide
    simp only [Nd.kind, Nd.kids] at h1
    rw [e1, e2] at h1
    omega
  obtain ⟨x0, rfl⟩ : ∃ x0, kids = [x0] := kids1 (n := Nd.mk 9 t m u ao cap kids) hln
  obtain ⟨b, o, hao0, p00, p01, p02, p03, p04, hLx0⟩ := kid_cells (j := 0) hL rfl (Below.refl _ _)
  obtain rfl : ao = some ⟨b, o, none⟩ := hao0
  obtain ⟨hP0, hC0⟩ := hG.kid (i := 0) (x := x0) hn0 rfl
  have hk0 : x0.kind ∈ exprL := class_0 (hC0 hn1)
  simp only [Nat.zero_mul, Nat.add_zero] at p00 p01 p02 p03 p04
  have HG0 := Lib.hid (hP0.good (expr_walk hk0))
  have HK0 := Lib.hid hk0
  have HL0 := Lib.hid hLx0
  have hblt : b < w.heap.size := World.block_lt_of_cell? _ _ p00
  clear hn0 hn1 hln hL hG hP0 hC0 hk0 hLx0
  show Calls _ _ #[.agg #[.int .i64 9, .string t, .string m, .int .u64 u, .slice (some ⟨b, o, none⟩) 1 cap]] w _
  go_enter Tryz.func31, Tryz.ntmps31
  go_wp2_with fail
  refine (exactly_any _ _ _ _ _ 1 _ _).mono ?_
  rintro e w1 ⟨rfl, hb1⟩
  have hz1 : w.heap.size < w1.heap.size := by have := hb1.size; simp at this; omega
  have HB1 := Lib.hid (((Below.refl w.heap.size w).alloc (Nat.le_refl _) _).trans (hb1.mono (by simp)))
  obtain ⟨k0, -⟩ := bblk hb1 (b := w.heap.size) (by simp)
  obtain ⟨k1, -⟩ := bblk hb1 (b := b) (by simp; omega)
  clear hb1
  go_wp2_with (go_at_call 66; refine (maybeExpression_some d hU x0 D _ (by first | exact HL0.out.below HB1.out | exact HL0.out.below (HB1.out.drew) | exact HL0.out.below ‹Below w.heap.size w _› | exact HL0.out.below (Below.drew ‹Below w.heap.size w _›)) HG0.out HK0.out).mono ?_; rintro e c0w ⟨b0, rfl, hR0, hb0⟩; have HZ0 : Below w.heap.size w c0w := (by first | exact Below.trans ‹Below w.heap.size w _› (hb0.mono (Below.size ‹Below w.heap.size w _›)) | exact Below.trans (Below.drew ‹Below w.heap.size w _›) (hb0.mono (by have := Below.size ‹Below w.heap.size w _›; simpa using this)) | exact HB1.out.trans (hb0.mono HB1.out.size) | exact (HB1.out.drew).trans (hb0.mono (by have := HB1.out.size; simpa using this))); have hz0 : w.heap.size < c0w.heap.size := (by have h := hb0.size; (try simp at h); omega); obtain ⟨ka0, -⟩ := bblk hb0 (b := w.heap.size) (by first | omega | (simp; omega)); obtain ⟨kb0, -⟩ := bblk hb0 (b := b) (by first | omega | (simp; omega)))
  go_ret
  refine unpost _ ptrTy_9 sTy_9 rfl HZ0 ?_
  rw [slots_9 _ rfl]
  exact ⟨rfl, rfl, rfl, ⟨b0, rfl, ((hR0.mono (From.le (by first | omega | (simp; omega)))).below ((Below.refl _ _).alloc (Nat.le_refl _) _))⟩, trivial⟩

set_option maxRecDepth 100000 in
set_option maxHeartbeats 2000000 in
theorem un_12 (d : Nat) (hU : UnC d) (n : Nd) (D : Nat) (w : World) (hL : LiesD D w n) (hG : PreD (d + 1) n) (hk : n.kind = 12) :
    Calls Tryz.prog 31 #[n.val] w (UnPost (d + 1) n w) := by
  obtain ⟨D, rfl⟩ : ∃ E, D = E + 1 := by cases D with | zero => exact hL.elim | succ E => exact ⟨E, rfl⟩
  obtain ⟨k, t, m, u, ao, cap, kids⟩ := n
  obtain rfl : k = 12 := hk
  have hn0 : (Nd.mk 12 t m u ao cap kids).kind ≠ 0 := by show (12 : Int) ≠ 0; decide
  have hn1 : (Nd.mk 12 t m u ao cap kids).kind ≠ 1 := by show (12 : Int) ≠ 1; decide
  have hln : kids.length = 1 := by
    have h1 := ((hG.fit hn0).2.2.2.1 hn1)
    have e1 : (fixedL 12).length = 1 := by decide
    have e2 : restL 12 = 28 := by decide
    simp only [Nd.kind, Nd.kids] at h1
    rw [e1, e2] at h1
    omega
  obtain ⟨x0, rfl⟩ : ∃ x0, kids = [x0] := kids1 (n := Nd.mk 12 t m u ao cap kids) hln
  obtain ⟨b, o, hao0, p00, p01, p02, p03, p04, hLx0⟩ := kid_cells (j := 0) hL rfl (Below.refl _ _)
  obtain rfl : ao = some ⟨b, o, none⟩ := hao0
  obtain ⟨hP0, hC0⟩ := hG.kid (i := 0) (x := x0) hn0 rfl
  have hk0 : x0.kind ∈ ([10, 11] : List Int) := class_few [10, 11] rfl (hC0 hn1)
  simp only [Nat.zero_mul, Nat.add_zero] at p00 p01 p02 p03 p04
  have HG0 := Lib.hid (hP0.good (by revert hk0; unfold walkL; simp; omega))
  have HK0 := Lib.hid hk0
  have HL0 := Lib.hid hLx0
  have hblt : b < w.heap.size := World.block_lt_of_cell? _ _ p00
  clear hn0 hn1 hln hL hG hP0 hC0 hk0 hLx0
  show Calls _ _ #[.agg #[.int .i64 12, .string t, .string m, .int .u64 u, .slice (some ⟨b, o, none⟩) 1 cap]] w _
  go_enter Tryz.func31, Tryz.ntmps31
  go_wp2_with fail
  refine (exactly_any _ _ _ _ _ 1 _ _).mono ?_
  rintro e w1 ⟨rfl, hb1⟩
  have hz1 : w.heap.size < w1.heap.size := by have := hb1.size; simp at this; omega
  have HB1 := Lib.hid (((Below.refl w.heap.size w).alloc (Nat.le_refl _) _).trans (hb1.mono (by simp)))
  obtain ⟨k0, -⟩ := bblk hb1 (b := w.heap.size) (by simp)
  obtain ⟨k1, -⟩ := bblk hb1 (b := b) (by simp; omega)
  clear hb1
  go_wp2_with (go_at_call 68; refine (nodeOfAssignment d hU x0 D _ (by first | exact HL0.out.below HB1.out | exact HL0.out.below (HB1.out.drew) | exact HL0.out.below ‹Below w.heap.size w _› | exact HL0.out.below (Below.drew ‹Below w.heap.size w _›)) HG0.out HK0.out).mono ?_; rintro e c0w ⟨b0, rfl, hR0, hb0⟩; have HZ0 : Below w.heap.size w c0w := (by first | exact Below.trans ‹Below w.heap.size w _› (hb0.mono (Below.size ‹Below w.heap.size w _›)) | exact Below.trans (Below.drew ‹Below w.heap.size w _›) (hb0.mono (by have := Below.size ‹Below w.heap.size w _›; simpa using this)) | exact HB1.out.trans (hb0.mono HB1.out.size) | exact (HB1.out.drew).trans (hb0.mono (by have := HB1.out.size; simpa using this))); have hz0 : w.heap.size < c0w.heap.size := (by have h := hb0.size; (try simp at h); omega); obtain ⟨ka0, -⟩ := bblk hb0 (b := w.heap.size) (by first | omega | (simp; omega)); obtain ⟨kb0, -⟩ := bblk hb0 (b := b) (by first | omega | (simp; omega)))
  go_ret
  refine unpost _ ptrTy_12 sTy_12 rfl HZ0 ?_
  rw [slots_12 _ rfl]
  exact ⟨rfl, rfl, rfl, ⟨b0, rfl, ((hR0.mono (From.le (by first | omega | (simp; omega)))).below ((Below.refl _ _).alloc (Nat.le_refl _) _))⟩, trivial⟩

set_option maxRecDepth 100000 in
set_option maxHeartbeats 2000000 in
theorem un_14 (d : Nat) (hU : UnC d) (n : Nd) (D : Nat) (w : World) (hL : LiesD D w n) (hG : PreD (d + 1) n) (hk : n.kind = 14) :
    Calls Tryz.prog 31 #[n.val] w (UnPost (d + 1) n w) := by
  obtain ⟨D, rfl⟩ : ∃ E, D = E + 1 := by cases D with | zero => exact hL.elim | succ E => exact ⟨E, rfl⟩
  obtain ⟨k, t, m, u, ao, cap, kids⟩ := n
  obtain rfl : k = 14 := hk
  have hn0 : (Nd.mk 14 t m u ao cap kids).kind ≠ 0 := by show (14 : Int) ≠ 0; decide
  have hn1 : (Nd.mk 14 t m u ao cap kids).kind ≠ 1 := by show (14 : Int) ≠ 1; decide
  have hln : kids.length = 1 := by
    have h1 := ((hG.fit hn0).2.2.2.1 hn1)
    have e1 : (fixedL 14).length = 1 := by decide
    have e2 : restL 14 = 28 := by decide
    simp only [Nd.kind, Nd.kids] at h1
    rw [e1, e2] at h1
    omega
  obtain ⟨x0, rfl⟩ : ∃ x0, kids = [x0] := kids1 (n := Nd.mk 14 t m u ao cap kids) hln
  obtain ⟨b, o, hao0, p00, p01, p02, p03, p04, hLx0⟩ := kid_cells (j := 0) hL rfl (Below.refl _ _)
  obtain rfl : ao = some ⟨b, o, none⟩ := hao0
  obtain ⟨hP0, hC0⟩ := hG.kid (i := 0) (x := x0) hn0 rfl
  have hk0 : x0.kind = 10 := by simpa using class_few [10] rfl (hC0 hn1)
  simp only [Nat.zero_mul, Nat.add_zero] at p00 p01 p02 p03 p04
  have HG0 := Lib.hid (hP0.good (by rw [hk0]; decide))
  have HK0 := Lib.hid hk0
  have HL0 := Lib.hid hLx0
  have hblt : b < w.heap.size := World.block_lt_of_cell? _ _ p00
  clear hn0 hn1 hln hL hG hP0 hC0 hk0 hLx0
  show Calls _ _ #[.agg #[.int .i64 14, .string t, .string m, .int .u64 u, .slice (some ⟨b, o, none⟩) 1 cap]] w _
  go_enter Tryz.func31, Tryz.ntmps31
  go_wp2_with fail
  refine (exactly_any _ _ _ _ _ 1 _ _).mono ?_
  rintro e w1 ⟨rfl, hb1⟩
  have hz1 : w.heap.size < w1.heap.size := by have := hb1.size; simp at this; omega
  have HB1 := Lib.hid (((Below.refl w.heap.size w).alloc (Nat.le_refl _) _).trans (hb1.mono (by simp)))
  obtain ⟨k0, -⟩ := bblk hb1 (b := w.heap.size) (by simp)
  obtain ⟨k1, -⟩ := bblk hb1 (b := b) (by simp; omega)
  clear hb1
  go_wp2_with (go_at_call 70; refine (nodeOf_10 d hU x0 D _ (by first | exact HL0.out.below HB1.out | exact HL0.out.below (HB1.out.drew) | exact HL0.out.below ‹Below w.heap.size w _› | exact HL0.out.below (Below.drew ‹Below w.heap.size w _›)) HG0.out HK0.out).mono ?_; rintro e c0w ⟨b0, rfl, hR0, hb0⟩; have HZ0 : Below w.heap.size w c0w := (by first | exact Below.trans ‹Below w.heap.size w _› (hb0.mono (Below.size ‹Below w.heap.size w _›)) | exact Below.trans (Below.drew ‹Below w.heap.size w _›) (hb0.mono (by have := Below.size ‹Below w.heap.size w _›; simpa using this)) | exact HB1.out.trans (hb0.mono HB1.out.size) | exact (HB1.out.drew).trans (hb0.mono (by have := HB1.out.size; simpa using this))); have hz0 : w.heap.size < c0w.heap.size := (by have h := hb0.size; (try simp at h); omega); obtain ⟨ka0, -⟩ := bblk hb0 (b := w.heap.size) (by first | omega | (simp; omega)); obtain ⟨kb0, -⟩ := bblk hb0 (b := b) (by first | omega | (simp; omega)))
  go_ret
  refine unpost _ ptrTy_14 sTy_14 rfl HZ0 ?_
  rw [slots_14 _ rfl]
  exact ⟨rfl, rfl, rfl, ⟨b0, rfl, ((hR0.mono (From.le (by first | omega | (simp; omega)))).below ((Below.refl _ _).alloc (Nat.le_refl _) _))⟩, trivial⟩

set_option maxRecDepth 100000 in
set_option maxHeartbeats 2000000 in
theorem un_25 (d : Nat) (hU : UnC d) (n : Nd) (D : Nat) (w : World) (hL : LiesD D w n) (hG : PreD (d + 1) n) (hk : n.kind = 25) :
    Calls Tryz.prog 31 #[n.val] w (UnPost (d + 1) n w) := by
  obtain ⟨D, rfl⟩ : ∃ E, D = E + 1 := by cases D with | zero => exact hL.elim | succ E => exact ⟨E, rfl⟩
  obtain ⟨k, t, m, u, ao, cap, kids⟩ := n
  obtain rfl : k = 25 := hk
  have hn0 : (Nd.mk 25 t m u ao cap kids).kind ≠ 0 := by show (25 : Int) ≠ 0; decide
  have hn1 : (Nd.mk 25 t m u ao cap kids).kind ≠ 1 := by show (25 : Int) ≠ 1; decide
  have hln : kids.length = 1 := by
    have h1 := ((hG.fit hn0).2.2.2.1 hn1)
    have e1 : (fixedL 25).length = 1 := by decide
    have e2 : restL 25 = 28 := by decide
    simp only [Nd.kind, Nd.kids] at h1
    rw [e1, e2] at h1
    omega
  obtain ⟨x0, rfl⟩ : ∃ x0, kids = [x0] := kids1 (n := Nd.mk 25 t m u ao cap kids) hln
  obtain ⟨b, o, hao0, p00, p01, p02, p03, p04, hLx0⟩ := kid_cells (j := 0) hL rfl (Below.refl _ _)
  obtain rfl : ao = some ⟨b, o, none⟩ := hao0
  obtain ⟨hP0, hC0⟩ := hG.kid (i := 0) (x := x0) hn0 rfl
  have hk0 : x0.kind ∈ exprL := class_0 (hC0 hn1)
  simp only [Nat.zero_mul, Nat.add_zero] at p00 p01 p02 p03 p04
  have HG0 := Lib.hid (hP0.good (expr_walk hk0))
  have HK0 := Lib.hid hk0
  have HL0 := Lib.hid hLx0
  have hblt : b < w.heap.size := World.block_lt_of_cell? _ _ p00
  clear hn0 hn1 hln hL hG hP0 hC0 hk0 hLx0
  show Calls _ _ #[.agg #[.int .i64 25, .string t, .string m, .int .u64 u, .slice (some ⟨b, o, none⟩) 1 cap]] w _
  go_enter Tryz.func31, Tryz.ntmps31
  go_wp2_with fail
  refine (exactly_any _ _ _ _ _ 1 _ _).mono ?_
  rintro e w1 ⟨rfl, hb1⟩
  have hz1 : w.heap.size < w1.heap.size := by have := hb1.size; simp at this; omega
  have HB1 := Lib.hid (((Below.refl w.heap.size w).alloc (Nat.le_refl _) _).trans (hb1.mono (by simp)))
  obtain ⟨k0, -⟩ := bblk hb1 (b := w.heap.size) (by simp)
  obtain ⟨k1, -⟩ := bblk hb1 (b := b) (by simp; omega)
  clear hb1
  go_wp2_with (go_at_call 73; refine (nodeOfExpression d hU x0 D _ (by first | exact HL0.out.below HB1.out | exact HL0.out.below (HB1.out.drew) | exact HL0.out.below ‹Below w.heap.size w _› | exact HL0.out.below (Below.drew ‹Below w.heap.size w _›)) HG0.out HK0.out).mono ?_; rintro e c0w ⟨b0, rfl, hR0, hb0⟩; have HZ0 : Below w.heap.size w c0w := (by first | exact Below.trans ‹Below w.heap.size w _› (hb0.mono (Below.size ‹Below w.heap.size w _›)) | exact Below.trans (Below.drew ‹Below w.heap.size w _›) (hb0.mono (by have := Below.size ‹Below w.heap.size w _›; simpa using this)) | exact HB1.out.trans (hb0.mono HB1.out.size) | exact (HB1.out.drew).trans (hb0.mono (by have := HB1.out.size; simpa using this))); have hz0 : w.heap.size < c0w.heap.size := (by have h := hb0.size; (try simp at h); omega); obtain ⟨ka0, -⟩ := bblk hb0 (b := w.heap.size) (by first | omega | (simp; omega)); obtain ⟨kb0, -⟩ := bblk hb0 (b := b) (by first | omega | (simp; omega)))
  go_ret
  refine unpost _ ptrTy_25 sTy_25 rfl HZ0 ?_
  rw [slots_25 _ rfl]
  exact ⟨rfl, rfl, rfl, rfl, ⟨b0, rfl, ((hR0.mono (From.le (by first | omega | (simp; omega)))).below ((Below.refl _ _).alloc (Nat.le_refl _) _))⟩, rfl, trivial⟩

set_option maxRecDepth 100000 in
set_option maxHeartbeats 2000000 in
theorem un_32 (d : Nat) (hU : UnC d) (n : Nd) (D : Nat) (w : World) (hL : LiesD D w n) (hG : PreD (d + 1) n) (hk : n.kind = 32) :
    Calls Tryz.prog 31 #[n.val] w (UnPost (d + 1) n w) := by
  obtain ⟨D, rfl⟩ : ∃ E, D = E + 1 := by cases D with | zero => exact hL.elim | succ E => exact ⟨E, rfl⟩
  obtain ⟨k, t, m, u, ao, cap, kids⟩ := n
  obtain rfl : k = 32 := hk
  have hn0 : (Nd.mk 32 t m u ao cap kids).kind ≠ 0 := by show (32 : Int) ≠ 0; decide
  have hn1 : (Nd.mk 32 t m u ao cap kids).kind ≠ 1 := by show (32 : Int) ≠ 1; decide
  have hln : kids.length = 1 := by
    have h1 := ((hG.fit hn0).2.2.2.1 hn1)
    have e1 : (fixedL 32).length = 1 := by decide
    have e2 : restL 32 = 28 := by decide
    simp only [Nd.kind, Nd.kids] at h1
    rw [e1, e2] at h1
    omega
  obtain ⟨x0, rfl⟩ : ∃ x0, kids = [x0] := kids1 (n := Nd.mk 32 t m u ao cap kids) hln
  obtain ⟨b, o, hao0, p00, p01, p02, p03, p04, hLx0⟩ := kid_cells (j := 0) hL rfl (Below.refl _ _)
  obtain rfl : ao = some ⟨b, o, none⟩ := hao0
  obtain ⟨hP0, hC0⟩ := hG.kid (i := 0) (x := x0) hn0 rfl
  have hk0 : x0.kind ∈ exprL := class_0 (hC0 hn1)
  simp only [Nat.zero_mul, Nat.add_zero] at p00 p01 p02 p03 p04
  have HG0 := Lib.hid (hP0.good (expr_walk hk0))
  have HK0 := Lib.hid hk0
  have HL0 := Lib.hid hLx0
  have hblt : b < w.heap.size := World.block_lt_of_cell? _ _ p00
  clear hn0 hn1 hln hL hG hP0 hC0 hk0 hLx0
  show Calls _ _ #[.agg #[.int .i64 32, .string t, .string m, .int .u64 u, .slice (some ⟨b, o, none⟩) 1 cap]] w _
  go_enter Tryz.func31, Tryz.ntmps31
  go_wp2_with fail
  refine (exactly_any _ _ _ _ _ 1 _ _).mono ?_
  rintro e w1 ⟨rfl, hb1⟩
  have hz1 : w.heap.size < w1.heap.size := by have := hb1.size; simp at this; omega
  have HB1 := Lib.hid (((Below.refl w.heap.size w).alloc (Nat.le_refl _) _).trans (hb1.mono (by simp)))
  obtain ⟨k0, -⟩ := bblk hb1 (b := w.heap.size) (by simp)
  obtain ⟨k1, -⟩ := bblk hb1 (b := b) (by simp; omega)
  clear hb1
  go_wp2_with (go_at_call 73; refine (nodeOfExpression d hU x0 D _ (by first | exact HL0.out.below HB1.out | exact HL0.out.below (HB1.out.drew) | exact HL0.out.below ‹Below w.heap.size w _› | exact HL0.out.below (Below.drew ‹Below w.heap.size w _›)) HG0.out HK0.out).mono ?_; rintro e c0w ⟨b0, rfl, hR0, hb0⟩; have HZ0 : Below w.heap.size w c0w := (by first | exact Below.trans ‹Below w.heap.size w _› (hb0.mono (Below.size ‹Below w.heap.size w _›)) | exact Below.trans (Below.drew ‹Below w.heap.size w _›) (hb0.mono (by have := Below.size ‹Below w.heap.size w _›; simpa using this)) | exact HB1.out.trans (hb0.mono HB1.out.size) | exact (HB1.out.drew).trans (hb0.mono (by have := HB1.out.size; simpa using this))); have hz0 : w.heap.size < c0w.heap.size := (by have h := hb0.size; (try simp at h); omega); obtain ⟨ka0, -⟩ := bblk hb0 (b := w.heap.size) (by first | omega | (simp; omega)); obtain ⟨kb0, -⟩ := bblk hb0 (b := b) (by first | omega | (simp; omega)))
  go_ret
  refine unpost _ ptrTy_32 sTy_32 rfl HZ0 ?_
  rw [slots_32 _ rfl]
  exact ⟨rfl, rfl, rfl, ⟨b0, rfl, ((hR0.mono (From.le (by first | omega | (simp; omega)))).below ((Below.refl _ _).alloc (Nat.le_refl _) _))⟩, trivial⟩

set_option maxRecDepth 100000 in
set_option maxHeartbeats 2000000 in
theorem un_5 (d : Nat) (hU : UnC d) (n : Nd) (D : Nat) (w : World) (hL : LiesD D w n) (hG : PreD (d + 1) n) (hk : n.kind = 5) (hm : (n.kid 0).kind ≠ 0) :
    Calls Tryz.prog 31 #[n.val] w (UnPost (d + 1) n w) := by
  obtain ⟨D, rfl⟩ : ∃ E, D = E + 1 := by cases D with | zero => exact hL.elim | succ E => exact ⟨E, rfl⟩
  obtain ⟨k, t, m, u, ao, cap, kids⟩ := n
  obtain rfl : k = 5 := hk
  have hn0 : (Nd.mk 5 t m u ao cap kids).kind ≠ 0 := by show (5 : Int) ≠ 0; decide
  have hn1 : (Nd.mk 5 t m u ao cap kids).kind ≠ 1 := by show (5 : Int) ≠ 1; decide
  have hln : kids.length = 2 := by
    have h1 := ((hG.fit hn0).2.2.2.1 hn1)
    have e1 : (fixedL 5).length = 2 := by decide
    have e2 : restL 5 = 28 := by decide
    simp only [Nd.kind, Nd.kids] at h1
    rw [e1, e2] at h1
    omega
  obtain ⟨x0, x1, rfl⟩ : ∃ x0 x1, kids = [x0, x1] := kids2 (n := Nd.mk 5 t m u ao cap kids) hln
  obtain ⟨b, o, hao0, p00, p01, p02, p03, p04, hLx0⟩ := kid_cells (j := 0) hL rfl (Below.refl _ _)
  obtain rfl : ao = some ⟨b, o, none⟩ := hao0
  obtain ⟨hP0, hC0⟩ := hG.kid (i := 0) (x := x0) hn0 rfl
  obtain ⟨bq, oq, hao1, p10, p11, p12, p13, p14, hLx1⟩ := kid_cells (j := 1) hL rfl (Below.refl _ _)
  cases hao1
  obtain ⟨hP1, hC1⟩ := hG.kid (i := 1) (x := x1) hn0 rfl
  have hk0 : x0.kind = 33 := by
    have h := class_few [33, 0] rfl (hC0 hn1)
    have h2 : x0.kind ≠ 0 := hm
    simp at h; omega
  have hk1 : x1.kind = 34 := by simpa using class_few [34] rfl (hC1 hn1)
  simp only [Nat.zero_mul, Nat.add_zero, Nat.one_mul] at p00 p01 p02 p03 p04 p10 p11 p12 p13 p14
  have HG0 := Lib.hid (hP0.good (by rw [hk0]; decide))
  have HK0 := Lib.hid hk0
  have HL0 := Lib.hid hLx0
  have HG1 := Lib.hid (hP1.good (by rw [hk1]; decide))
  have HK1 := Lib.hid hk1
  have HL1 := Lib.hid hLx1
  have hblt : b < w.heap.size := World.block_lt_of_cell? _ _ p00
  clear hn0 hn1 hln hL hG hP0 hC0 hk0 hLx0 hP1 hC1 hk1 hLx1 hm
  show Calls _ _ #[.agg #[.int .i64 5, .string t, .string m, .int .u64 u, .slice (some ⟨b, o, none⟩) 2 cap]] w _
  go_enter Tryz.func31, Tryz.ntmps31
  go_wp2_with fail
  refine (exactly_any _ _ _ _ _ 2 _ _).mono ?_
  rintro e w1 ⟨rfl, hb1⟩
  have hz1 : w.heap.size < w1.heap.size := by have := hb1.size; simp at this; omega
  have HB1 := Lib.hid (((Below.refl w.heap.size w).alloc (Nat.le_refl _) _).trans (hb1.mono (by simp)))
  obtain ⟨k0, -⟩ := bblk hb1 (b := w.heap.size) (by simp)
  obtain ⟨k1, -⟩ := bblk hb1 (b := b) (by simp; omega)
  clear hb1
  go_wp2_with fail
  go_region_held3 (fun w' => (w'.cell? ⟨w.heap.size, 4, none⟩ = some (.slice (some ⟨b, o, none⟩) 2 cap) ∧ w'.cell? ⟨b, o, none⟩ = some (.int .i64 x0.kind) ∧ w'.cell? ⟨b, o + 1, none⟩ = some (.string x0.text) ∧ w'.cell? ⟨b, o + 2, none⟩ = some (.string x0.more) ∧ w'.cell? ⟨b, o + 3, none⟩ = some (.int .u64 x0.num) ∧ w'.cell? ⟨b, o + 4, none⟩ = some (.slice x0.ao x0.kids.length x0.cap) ∧ w'.cell? ⟨b, o + 5, none⟩ = some (.int .i64 x1.kind) ∧ w'.cell? ⟨b, o + 5 + 1, none⟩ = some (.string x1.text) ∧ w'.cell? ⟨b, o + 5 + 2, none⟩ = some (.string x1.more) ∧ w'.cell? ⟨b, o + 5 + 3, none⟩ = some (.int .u64 x1.num) ∧ w'.cell? ⟨b, o + 5 + 4, none⟩ = some (.slice x1.ao x1.kids.length x1.cap))) (go_keep) (first | (go_at_call 64; refine (maybeIdentifier_some d hU x0 D _ (by first | exact HL0.out.below HB1.out | exact HL0.out.below (HB1.out.drew) | exact HL0.out.below ‹Below w.heap.size w _› | exact HL0.out.below (Below.drew ‹Below w.heap.size w _›)) HG0.out HK0.out).mono ?_; rintro e c0w ⟨b0, rfl, hR0, hb0⟩; have HZ0 : Below w.heap.size w c0w := (by first | exact Below.trans ‹Below w.heap.size w _› (hb0.mono (Below.size ‹Below w.heap.size w _›)) | exact Below.trans (Below.drew ‹Below w.heap.size w _›) (hb0.mono (by have := Below.size ‹Below w.heap.size w _›; simpa using this)) | exact HB1.out.trans (hb0.mono HB1.out.size) | exact (HB1.out.drew).trans (hb0.mono (by have := HB1.out.size; simpa using this))); have hz0 : w.heap.size < c0w.heap.size := (by have h := hb0.size; (try simp at h); omega); obtain ⟨ka0, -⟩ := bblk hb0 (b := w.heap.size) (by first | omega | (simp; omega)); obtain ⟨kb0, -⟩ := bblk hb0 (b := b) (by first | omega | (simp; omega))) | (go_at_call 65; refine (nodeOf_34 d hU x1 D _ (by first | exact HL1.out.below HB1.out | exact HL1.out.below (HB1.out.drew) | exact HL1.out.below ‹Below w.heap.size w _› | exact HL1.out.below (Below.drew ‹Below w.heap.size w _›)) HG1.out HK1.out).mono ?_; rintro e c1w ⟨b1, rfl, hR1, hb1⟩; have HZ1 : Below w.heap.size w c1w := (by first | exact Below.trans ‹Below w.heap.size w _› (hb1.mono (Below.size ‹Below w.heap.size w _›)) | exact Below.trans (Below.drew ‹Below w.heap.size w _›) (hb1.mono (by have := Below.size ‹Below w.heap.size w _›; simpa using this)) | exact HB1.out.trans (hb1.mono HB1.out.size) | exact (HB1.out.drew).trans (hb1.mono (by have := HB1.out.size; simpa using this))); have hz1 : w.heap.size < c1w.heap.size := (by have h := hb1.size; (try simp at h); omega); obtain ⟨ka1, -⟩ := bblk hb1 (b := w.heap.size) (by first | omega | (simp; omega)); obtain ⟨kb1, -⟩ := bblk hb1 (b := b) (by first | omega | (simp; omega))))
  go_wp2_with fail
  go_ret
  refine unpost _ ptrTy_5 sTy_5 rfl HZ1 ?_
  rw [slots_5 _ rfl]
  exact ⟨rfl, rfl, rfl, Or.inr ⟨(show x0.kind ≠ 0 from (by have h := HK0.out; first | omega | exact expr_ne0 h)), b0, rfl, (((hR0.mono (From.le (by first | omega | (simp; omega)))).below (by first | exact hb1 | (have h := hb1; simpa using h))).below ((Below.refl _ _).alloc (Nat.le_refl _) _))⟩, ⟨b1, rfl, ((hR1.mono (From.le (by first | omega | (simp; omega)))).below ((Below.refl _ _).alloc (Nat.le_refl _) _))⟩, trivial⟩

set_option maxRecDepth 100000 in
set_option maxHeartbeats 2000000 in
theorem un_5_none (d : Nat) (hU : UnC d) (n : Nd) (D : Nat) (w : World) (hL : LiesD D w n) (hG : PreD (d + 1) n) (hk : n.kind = 5) (hm : (n.kid 0).kind = 0) :
    Calls Tryz.prog 31 #[n.val] w (UnPost (d + 1) n w) := by
  obtain ⟨D, rfl⟩ : ∃ E, D = E + 1 := by cases D with | zero => exact hL.elim | succ E => exact ⟨E, rfl⟩
  obtain ⟨k, t, m, u, ao, cap, kids⟩ := n
  obtain rfl : k = 5 := hk
  have hn0 : (Nd.mk 5 t m u ao cap kids).kind ≠ 0 := by show (5 : Int) ≠ 0; decide
  have hn1 : (Nd.mk 5 t m u ao cap kids).kind ≠ 1 := by show (5 : Int) ≠ 1; decide
  have hln : kids.length = 2 := by
    have h1 := ((hG.fit hn0).2.2.2.1 hn1)
    have e1 : (fixedL 5).length = 2 := by decide
    have e2 : restL 5 = 28 := by decide
    simp only [Nd.kind, Nd.kids] at h1
    rw [e1, e2] at h1
    omega
  obtain ⟨x0, x1, rfl⟩ : ∃ x0 x1, kids = [x0, x1] := kids2 (n := Nd.mk 5 t m u ao cap kids) hln
  obtain ⟨b, o, hao0, p00, p01, p02, p03, p04, hLx0⟩ := kid_cells (j := 0) hL rfl (Below.refl _ _)
  obtain rfl : ao = some ⟨b, o, none⟩ := hao0
  obtain ⟨hP0, hC0⟩ := hG.kid (i := 0) (x := x0) hn0 rfl
  obtain ⟨bq, oq, hao1, p10, p11, p12, p13, p14, hLx1⟩ := kid_cells (j := 1) hL rfl (Below.refl _ _)
  cases hao1
  obtain ⟨hP1, hC1⟩ := hG.kid (i := 1) (x := x1) hn0 rfl
  have hk0 : x0.kind = 0 := hm
  have hk1 : x1.kind = 34 := by simpa using class_few [34] rfl (hC1 hn1)
  simp only [Nat.zero_mul, Nat.add_zero, Nat.one_mul] at p00 p01 p02 p03 p04 p10 p11 p12 p13 p14
  have HK0 := Lib.hid hk0
  have HL0 := Lib.hid hLx0
  have HG1 := Lib.hid (hP1.good (by rw [hk1]; decide))
  have HK1 := Lib.hid hk1
  have HL1 := Lib.hid hLx1
  have hblt : b < w.heap.size := World.block_lt_of_cell? _ _ p00
  clear hn0 hn1 hln hL hG hP0 hC0 hk0 hLx0 hP1 hC1 hk1 hLx1 hm
  show Calls _ _ #[.agg #[.int .i64 5, .string t, .string m, .int .u64 u, .slice (some ⟨b, o, none⟩) 2 cap]] w _
  go_enter Tryz.func31, Tryz.ntmps31
  go_wp2_with fail
  refine (exactly_any _ _ _ _ _ 2 _ _).mono ?_
  rintro e w1 ⟨rfl, hb1⟩
  have hz1 : w.heap.size < w1.heap.size := by have := hb1.size; simp at this; omega
  have HB1 := Lib.hid (((Below.refl w.heap.size w).alloc (Nat.le_refl _) _).trans (hb1.mono (by simp)))
  obtain ⟨k0, -⟩ := bblk hb1 (b := w.heap.size) (by simp)
  obtain ⟨k1, -⟩ := bblk hb1 (b := b) (by simp; omega)
  clear hb1
  go_wp2_with fail
  go_region_held3 (fun w' => (w'.cell? ⟨w.heap.size, 4, none⟩ = some (.slice (some ⟨b, o, none⟩) 2 cap) ∧ w'.cell? ⟨b, o, none⟩ = some (.int .i64 x0.kind) ∧ w'.cell? ⟨b, o + 1, none⟩ = some (.string x0.text) ∧ w'.cell? ⟨b, o + 2, none⟩ = some (.string x0.more) ∧ w'.cell? ⟨b, o + 3, none⟩ = some (.int .u64 x0.num) ∧ w'.cell? ⟨b, o + 4, none⟩ = some (.slice x0.ao x0.kids.length x0.cap) ∧ w'.cell? ⟨b, o + 5, none⟩ = some (.int .i64 x1.kind) ∧ w'.cell? ⟨b, o + 5 + 1, none⟩ = some (.string x1.text) ∧ w'.cell? ⟨b, o + 5 + 2, none⟩ = some (.string x1.more) ∧ w'.cell? ⟨b, o + 5 + 3, none⟩ = some (.int .u64 x1.num) ∧ w'.cell? ⟨b, o + 5 + 4, none⟩ = some (.slice x1.ao x1.kids.length x1.cap))) (go_keep) (first | (go_at_call 64; refine (maybeIdentifier_none x0 _ HK0.out).mono ?_; rintro e c0w ⟨rfl, hb0⟩; have HZ0 : Below w.heap.size w c0w := (by first | exact Below.trans ‹Below w.heap.size w _› (hb0.mono (Below.size ‹Below w.heap.size w _›)) | exact Below.trans (Below.drew ‹Below w.heap.size w _›) (hb0.mono (by have := Below.size ‹Below w.heap.size w _›; simpa using this)) | exact HB1.out.trans (hb0.mono HB1.out.size) | exact (HB1.out.drew).trans (hb0.mono (by have := HB1.out.size; simpa using this))); have hz0 : w.heap.size < c0w.heap.size := (by have h := hb0.size; (try simp at h); omega); obtain ⟨ka0, -⟩ := bblk hb0 (b := w.heap.size) (by first | omega | (simp; omega)); obtain ⟨kb0, -⟩ := bblk hb0 (b := b) (by first | omega | (simp; omega))) | (go_at_call 65; refine (nodeOf_34 d hU x1 D _ (by first | exact HL1.out.below HB1.out | exact HL1.out.below (HB1.out.drew) | exact HL1.out.below ‹Below w.heap.size w _› | exact HL1.out.below (Below.drew ‹Below w.heap.size w _›)) HG1.out HK1.out).mono ?_; rintro e c1w ⟨b1, rfl, hR1, hb1⟩; have HZ1 : Below w.heap.size w c1w := (by first | exact Below.trans ‹Below w.heap.size w _› (hb1.mono (Below.size ‹Below w.heap.size w _›)) | exact Below.trans (Below.drew ‹Below w.heap.size w _›) (hb1.mono (by have := Below.size ‹Below w.heap.size w _›; simpa using this)) | exact HB1.out.trans (hb1.mono HB1.out.size) | exact (HB1.out.drew).trans (hb1.mono (by have := HB1.out.size; simpa using this))); have hz1 : w.heap.size < c1w.heap.size := (by have h := hb1.size; (try simp at h); omega); obtain ⟨ka1, -⟩ := bblk hb1 (b := w.heap.size) (by first | omega | (simp; omega)); obtain ⟨kb1, -⟩ := bblk hb1 (b := b) (by first | omega | (simp; omega))))
  go_wp2_with fail
  go_ret
  refine unpost _ ptrTy_5 sTy_5 rfl HZ1 ?_
  rw [slots_5 _ rfl]
  exact ⟨rfl, rfl, rfl, Or.inl ⟨HK0.out, rfl⟩, ⟨b1, rfl, ((hR1.mono (From.le (by first | omega | (simp; omega)))).below ((Below.refl _ _).alloc (Nat.le_refl _) _))⟩, trivial⟩

end Go.Proofs.YtongafghllkomaaGreatDoor
