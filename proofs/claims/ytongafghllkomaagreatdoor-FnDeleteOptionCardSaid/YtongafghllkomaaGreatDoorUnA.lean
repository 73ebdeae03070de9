/-
  unnode kind by kind, part A: what it lays, given its own contract a level down. No conditions.
-/
import Derived.Test.YtongafghllkomaaGreatDoorTests
namespace Go.Proofs.YtongafghllkomaaGreatDoor
open Go.RowKit
set_option linter.unusedVariables false

set_option maxRecDepth 100000 in
theorem un_7 (d : Nat) (hU : UnC d) (n : Nd) (D : Nat) (w : World) (hL : LiesD D w n) (hG : PreD (d + 1) n) (hk : n.kind = 7) :
    Calls Tryz.prog 31 #[n.val] w (UnPost (d + 1) n w) := by
  obtain ⟨k, t, m, u, ao, cap, kids⟩ := n
  obtain rfl : k = 7 := hk
  have hu : 0 ≤ u ∧ u < 18446744073709551616 := by
    cases D with
    | zero => exact hL.elim
    | succ D => exact ⟨hL.1.2.2.2.1, hL.1.2.2.2.2.1⟩
  obtain ⟨hu1, hu2⟩ := hu
  clear hL hG
  show Calls _ _ #[.agg #[.int .i64 7, .string t, .string m, .int .u64 u, .slice ao kids.length cap]] w _
  go_enter Tryz.func31, Tryz.ntmps31
  go_wp2_with fail
  go_ret
  refine unpost _ ptrTy_7 sTy_7 (by simp) ((Below.refl _ _).alloc (Nat.le_refl _) _) ?_
  rw [slots_7 _ rfl]
  exact ⟨rfl, rfl, rfl, rfl, trivial⟩

set_option maxRecDepth 100000 in
theorem un_31 (d : Nat) (hU : UnC d) (n : Nd) (D : Nat) (w : World) (hL : LiesD D w n) (hG : PreD (d + 1) n) (hk : n.kind = 31) :
    Calls Tryz.prog 31 #[n.val] w (UnPost (d + 1) n w) := by
  obtain ⟨k, t, m, u, ao, cap, kids⟩ := n
  obtain rfl : k = 31 := hk
  have hu : 0 ≤ u ∧ u < 18446744073709551616 := by
    cases D with
    | zero => exact hL.elim
    | succ D => exact ⟨hL.1.2.2.2.1, hL.1.2.2.2.2.1⟩
  obtain ⟨hu1, hu2⟩ := hu
  clear hL hG
  show Calls _ _ #[.agg #[.int .i64 31, .string t, .string m, .int .u64 u, .slice ao kids.length cap]] w _
  go_enter Tryz.func31, Tryz.ntmps31
  go_wp2_with fail
  go_ret
  refine unpost _ ptrTy_31 sTy_31 (by simp) ((Below.refl _ _).alloc (Nat.le_refl _) _) ?_
  rw [slots_31 _ rfl]
  exact ⟨rfl, rfl, rfl, rfl, trivial⟩

set_option maxRecDepth 100000 in
theorem un_33 (d : Nat) (hU : UnC d) (n : Nd) (D : Nat) (w : World) (hL : LiesD D w n) (hG : PreD (d + 1) n) (hk : n.kind = 33) :
    Calls Tryz.prog 31 #[n.val] w (UnPost (d + 1) n w) := by
  obtain ⟨k, t, m, u, ao, cap, kids⟩ := n
  obtain rfl : k = 33 := hk
  have hu : 0 ≤ u ∧ u < 18446744073709551616 := by
    cases D with
    | zero => exact hL.elim
    | succ D => exact ⟨hL.1.2.2.2.1, hL.1.2.2.2.2.1⟩
  obtain ⟨hu1, hu2⟩ := hu
  clear hL hG
  show Calls _ _ #[.agg #[.int .i64 33, .string t, .string m, .int .u64 u, .slice ao kids.length cap]] w _
  go_enter Tryz.func31, Tryz.ntmps31
  go_wp2_with fail
  go_ret
  refine unpost _ ptrTy_33 sTy_33 (by simp) ((Below.refl _ _).alloc (Nat.le_refl _) _) ?_
  rw [slots_33 _ rfl]
  exact ⟨rfl, rfl, rfl, rfl, trivial⟩

set_option maxRecDepth 100000 in
theorem un_34 (d : Nat) (hU : UnC d) (n : Nd) (D : Nat) (w : World) (hL : LiesD D w n) (hG : PreD (d + 1) n) (hk : n.kind = 34) :
    Calls Tryz.prog 31 #[n.val] w (UnPost (d + 1) n w) := by
  obtain ⟨k, t, m, u, ao, cap, kids⟩ := n
  obtain rfl : k = 34 := hk
  have hu : 0 ≤ u ∧ u < 18446744073709551616 := by
    cases D with
    | zero => exact hL.elim
    | succ D => exact ⟨hL.1.2.2.2.1, hL.1.2.2.2.2.1⟩
  obtain ⟨hu1, hu2⟩ := hu
  clear hL hG
  show Calls _ _ #[.agg #[.int .i64 34, .string t, .string m, .int .u64 u, .slice ao kids.length cap]] w _
  go_enter Tryz.func31, Tryz.ntmps31
  go_wp2_with fail
  go_ret
  refine unpost _ ptrTy_34 sTy_34 (by simp) ((Below.refl _ _).alloc (Nat.le_refl _) _) ?_
  rw [slots_34 _ rfl]
  exact ⟨rfl, rfl, rfl, rfl, trivial⟩

set_option maxRecDepth 100000 in
theorem un_35 (d : Nat) (hU : UnC d) (n : Nd) (D : Nat) (w : World) (hL : LiesD D w n) (hG : PreD (d + 1) n) (hk : n.kind = 35) :
    Calls Tryz.prog 31 #[n.val] w (UnPost (d + 1) n w) := by
  obtain ⟨k, t, m, u, ao, cap, kids⟩ := n
  obtain rfl : k = 35 := hk
  have hu : 0 ≤ u ∧ u < 18446744073709551616 := by
    cases D with
    | zero => exact hL.elim
    | succ D => exact ⟨hL.1.2.2.2.1, hL.1.2.2.2.2.1⟩
  obtain ⟨hu1, hu2⟩ := hu
  clear hL hG
  show Calls _ _ #[.agg #[.int .i64 35, .string t, .string m, .int .u64 u, .slice ao kids.length cap]] w _
  go_enter Tryz.func31, Tryz.ntmps31
  go_wp2_with fail
  go_ret
  refine unpost _ ptrTy_35 sTy_35 (by simp) ((Below.refl _ _).alloc (Nat.le_refl _) _) ?_
  rw [slots_35 _ rfl]
  exact ⟨rfl, rfl, rfl, rfl, trivial⟩

set_option maxRecDepth 100000 in
theorem un_36 (d : Nat) (hU : UnC d) (n : Nd) (D : Nat) (w : World) (hL : LiesD D w n) (hG : PreD (d + 1) n) (hk : n.kind = 36) :
    Calls Tryz.prog 31 #[n.val] w (UnPost (d + 1) n w) := by
  obtain ⟨k, t, m, u, ao, cap, kids⟩ := n
  obtain rfl : k = 36 := hk
  have hu : 0 ≤ u ∧ u < 18446744073709551616 := by
    cases D with
    | zero => exact hL.elim
    | succ D => exact ⟨hL.1.2.2.2.1, hL.1.2.2.2.2.1⟩
  obtain ⟨hu1, hu2⟩ := hu
  clear hL hG
  show Calls _ _ #[.agg #[.int .i64 36, .string t, .string m, .int .u64 u, .slice ao kids.length cap]] w _
  go_enter Tryz.func31, Tryz.ntmps31
  go_wp2_with fail
  go_ret
  refine unpost _ ptrTy_36 sTy_36 (by simp) ((Below.refl _ _).alloc (Nat.le_refl _) _) ?_
  rw [slots_36 _ rfl]
  exact ⟨rfl, rfl, rfl, rfl, trivial⟩

set_option maxRecDepth 100000 in
theorem un_37 (d : Nat) (hU : UnC d) (n : Nd) (D : Nat) (w : World) (hL : LiesD D w n) (hG : PreD (d + 1) n) (hk : n.kind = 37) :
    Calls Tryz.prog 31 #[n.val] w (UnPost (d + 1) n w) := by
  obtain ⟨k, t, m, u, ao, cap, kids⟩ := n
  obtain rfl : k = 37 := hk
  have hu : 0 ≤ u ∧ u < 18446744073709551616 := by
    cases D with
    | zero => exact hL.elim
    | succ D => exact ⟨hL.1.2.2.2.1, hL.1.2.2.2.2.1⟩
  obtain ⟨hu1, hu2⟩ := hu
  clear hL hG
  show Calls _ _ #[.agg #[.int .i64 37, .string t, .string m, .int .u64 u, .slice ao kids.length cap]] w _
  go_enter Tryz.func31, Tryz.ntmps31
  go_wp2_with fail
  go_ret
  refine unpost _ ptrTy_37 sTy_37 (by simp) ((Below.refl _ _).alloc (Nat.le_refl _) _) ?_
  rw [slots_37 _ rfl]
  exact ⟨rfl, rfl, rfl, rfl, trivial⟩

set_option maxRecDepth 100000 in
theorem un_43 (d : Nat) (hU : UnC d) (n : Nd) (D : Nat) (w : World) (hL : LiesD D w n) (hG : PreD (d + 1) n) (hk : n.kind = 43) :
    Calls Tryz.prog 31 #[n.val] w (UnPost (d + 1) n w) := by
  obtain ⟨k, t, m, u, ao, cap, kids⟩ := n
  obtain rfl : k = 43 := hk
  have hu : 0 ≤ u ∧ u < 18446744073709551616 := by
    cases D with
    | zero => exact hL.elim
    | succ D => exact ⟨hL.1.2.2.2.1, hL.1.2.2.2.2.1⟩
  obtain ⟨hu1, hu2⟩ := hu
  clear hL hG
  show Calls _ _ #[.agg #[.int .i64 43, .string t, .string m, .int .u64 u, .slice ao kids.length cap]] w _
  go_enter Tryz.func31, Tryz.ntmps31
  go_wp2_with fail
  go_ret
  refine unpost _ ptrTy_43 sTy_43 (by simp) ((Below.refl _ _).alloc (Nat.le_refl _) _) ?_
  rw [slots_43 _ rfl]
  exact ⟨rfl, rfl, rfl, trivial⟩

end Go.Proofs.YtongafghllkomaaGreatDoor
