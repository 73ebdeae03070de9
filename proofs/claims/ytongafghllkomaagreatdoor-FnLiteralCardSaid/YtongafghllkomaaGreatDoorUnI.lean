/-
  unnode kind by kind, part I: what it lays, given its own contract a level down. No conditions.
-/
import Derived.Test.YtongafghllkomaaGreatDoorOps2
namespace Go.Proofs.YtongafghllkomaaGreatDoor
open Go.RowKit
set_option linter.unusedVariables false

set_option maxRecDepth 100000 in
theorem un_42 (d : Nat) (hU : UnC d) (n : Nd) (D : Nat) (w : World) (hL : LiesD D w n) (hG : PreD (d + 1) n) (hk : n.kind = 42) :
    Calls Tryz.prog 31 #[n.val] w (UnPost (d + 1) n w) := by
  obtain ⟨k, t, m, u, ao, cap, kids⟩ := n
  obtain rfl : k = 42 := hk
  have hu : 0 ≤ u ∧ u < 18446744073709551616 := by
    cases D with
    | zero => exact hL.elim
    | succ D => exact ⟨hL.1.2.2.2.1, hL.1.2.2.2.2.1⟩
  obtain ⟨hu1, hu2⟩ := hu
  clear hL hG
  show Calls _ _ #[.agg #[.int .i64 42, .string t, .string m, .int .u64 u, .slice ao kids.length cap]] w _
  go_enter Tryz.func31, Tryz.ntmps31
  go_wp2_with fail
  refine (regexp_any _ _).mono ?_
  rintro e w1 ⟨rfl, rfl⟩
  go_wp2_with fail
  go_ret
  refine unpost _ ptrTy_42 sTy_42 (by simp) (((Below.refl _ _).alloc (Nat.le_refl _) _).alloc (by simp) _) ?_
  rw [slots_42 _ rfl]
  exact ⟨rfl, rfl, rfl, ⟨w.heap.size + 1, (show w.heap.size ≤ w.heap.size + 1 by omega), rfl, by show _ = some (Obj.cells #[.string t] 304 (0, 0)); rw [heap_alloc_old _ _ (by simp)]; have h := heap_alloc_new (w.alloc (.cells #[.int .i64 42, .string t, .string m, .int .u64 u, .slice ao kids.length cap] 25)) (.cells #[.string t] 304); simpa using h⟩, trivial⟩

set_option maxRecDepth 100000 in
theorem un_41 (d : Nat) (hU : UnC d) (n : Nd) (D : Nat) (w : World) (hL : LiesD D w n) (hG : PreD (d + 1) n) (hk : n.kind = 41) :
    Calls Tryz.prog 31 #[n.val] w (UnPost (d + 1) n w) := by
  obtain ⟨k, t, m, u, ao, cap, kids⟩ := n
  obtain rfl : k = 41 := hk
  have hu : 0 ≤ u ∧ u < 18446744073709551616 := by
    cases D with
    | zero => exact hL.elim
    | succ D => exact ⟨hL.1.2.2.2.1, hL.1.2.2.2.2.1⟩
  obtain ⟨hu1, hu2⟩ := hu
  clear hL hG
  show Calls _ _ #[.agg #[.int .i64 41, .string t, .string m, .int .u64 u, .slice ao kids.length cap]] w _
  go_enter Tryz.func31, Tryz.ntmps31
  go_wp2_with fail
  refine (unix_any (wrap64 u) (wrap64_bd u).1 (wrap64_bd u).2 _).mono ?_
  rintro e w1 ⟨rfl, hb1⟩
  go_wp2_with fail
  go_ret
  refine unpost _ ptrTy_41 sTy_41 rfl (((Below.refl w.heap.size w).alloc (Nat.le_refl _) _).trans (hb1.mono (by simp))) ?_
  rw [slots_41 _ rfl]
  exact ⟨rfl, rfl, rfl, rfl, rfl, rfl, trivial⟩

theorem frombits (u : Int) (w : World) : Sem.run Tryz.prog (callFunc 82 #[.int .u64 u]) w = .ok (Next.value (Value.float .f64 u.toNat)) w := by kernel_rfl
set_option maxRecDepth 100000 in
theorem un_38 (d : Nat) (hU : UnC d) (n : Nd) (D : Nat) (w : World) (hL : LiesD D w n) (hG : PreD (d + 1) n) (hk : n.kind = 38) :
    Calls Tryz.prog 31 #[n.val] w (UnPost (d + 1) n w) := by
  obtain ⟨k, t, m, u, ao, cap, kids⟩ := n
  obtain rfl : k = 38 := hk
  clear hL hG
  have hf := frombits u
  show Calls _ _ #[.agg #[.int .i64 38, .string t, .string m, .int .u64 u, .slice ao kids.length cap]] w _
  go_enter Tryz.func31, Tryz.ntmps31
  go_wp2_with fail
  go_ret
  refine unpost _ ptrTy_38 sTy_38 (by simp) ((Below.refl _ _).alloc (Nat.le_refl _) _) ?_
  rw [slots_38 _ rfl]
  exact ⟨rfl, rfl, rfl, rfl, trivial⟩

end Go.Proofs.YtongafghllkomaaGreatDoor
