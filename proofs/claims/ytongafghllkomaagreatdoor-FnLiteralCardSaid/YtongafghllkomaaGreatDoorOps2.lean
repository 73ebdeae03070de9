/-
  Operators, logical operators, patterns and moments, as unnode makes them. No conditions but the ranges that stand in each.
-/
import Derived.Test.YtongafghllkomaaGreatDoorUnE
import Derived.Test.YtongafghllkomaaGreatDoorOps
import Derived.Deep.LoopGhost
namespace Go.Proofs.YtongafghllkomaaGreatDoor
open Go.RowKit
set_option linter.unusedVariables false

theorem lookup_any (m : Nat) (hm : m < 20) (w : World) : Calls Tryz.prog 119 #[.string (op m)] w fun e w' => e = .returned (.int .i64 ((m : Int) + 1)) ∧ w = w' := by
  go_enter Tryz.func119, Tryz.ntmps119
  go_wp2_with fail
  refine (opOf m hm _).mono ?_
  rintro e w1 ⟨rfl, rfl⟩
  go_wp2_with fail
  go_ret
  exact ⟨rfl, rfl⟩

theorem operator_any (m : Nat) (hm : m < 20) (w : World) : Calls Tryz.prog 79 #[.string (op m)] w fun e w' => e = .returned (.int .i64 ((m : Int) + 1)) ∧ w = w' := by
  have h1 : ((m : Int) + 1 != 0) = true := by simp; omega
  go_enter Tryz.func79, Tryz.ntmps79
  go_wp2_with fail
  refine (lookup_any m hm _).mono ?_
  rintro e w1 ⟨rfl, rfl⟩
  go_wp2_with fail
  go_ret
  exact ⟨rfl, rfl⟩

theorem logicalOf_and (w : World) : Calls Tryz.prog 149 #[.string ⟨#[97, 110, 100]⟩] w fun e w' => e = .returned (.int .i64 1) ∧ w = w' := by
  go_enter Tryz.func149, Tryz.ntmps149
  go_wp2
  go_loopg [3] 1 (fun gk i wr => wr = w ∧ i = .int .i64 1)
  case atStart => exact ⟨rfl, rfl⟩
  case round =>
    obtain ⟨rfl, rfl⟩ := hrel
    go_wp2
    go_ret
    exact ⟨rfl, rfl⟩
theorem logicalOf_or (w : World) : Calls Tryz.prog 149 #[.string ⟨#[111, 114]⟩] w fun e w' => e = .returned (.int .i64 2) ∧ w = w' := by
  go_enter Tryz.func149, Tryz.ntmps149
  go_wp2
  go_loopg [3] 1 (fun gk i wr => wr = w ∧ ((gk = 1 ∧ i = .int .i64 1) ∨ (gk = 0 ∧ i = .int .i64 2)))
  case atStart => exact ⟨rfl, Or.inl ⟨rfl, rfl⟩⟩
  case round =>
    obtain ⟨rfl, ⟨rfl, rfl⟩ | ⟨rfl, rfl⟩⟩ := hrel
    · go_wp2
      go_roundg 0
      case measure => omega
      case rel => exact ⟨rfl, Or.inr ⟨rfl, rfl⟩⟩
    · go_wp2
      go_ret
      exact ⟨rfl, rfl⟩
theorem logical_and (w : World) : Calls Tryz.prog 80 #[.string ⟨#[97, 110, 100]⟩] w fun e w' => e = .returned (.int .i64 1) ∧ w = w' := by
  go_enter Tryz.func80, Tryz.ntmps80
  go_wp2_with (first | (go_at_call 149; refine (logicalOf_and _).mono ?_; rintro e w' ⟨rfl, rfl⟩) | go_in)
  go_ret
  exact ⟨rfl, rfl⟩
theorem logical_or (w : World) : Calls Tryz.prog 80 #[.string ⟨#[111, 114]⟩] w fun e w' => e = .returned (.int .i64 2) ∧ w = w' := by
  go_enter Tryz.func80, Tryz.ntmps80
  go_wp2_with (first | (go_at_call 149; refine (logicalOf_or _).mono ?_; rintro e w' ⟨rfl, rfl⟩) | go_in)
  go_ret
  exact ⟨rfl, rfl⟩

theorem regexp_any (s : ByteArray) (w : World) : Calls Tryz.prog 85 #[.string s] w fun e w' => e = .returned (.pointer (some ⟨w.heap.size, 0, none⟩)) ∧ w' = w.alloc (.cells #[.string s] 304) := by
  go_enter Tryz.func85, Tryz.ntmps85
  go_wp2_with fail
  go_ret
  exact ⟨rfl, rfl⟩

theorem tmod_bd (n : Int) : -1000000000 < n.tmod 1000000000 ∧ n.tmod 1000000000 < 1000000000 := by
  rcases Int.le_total 0 n with h | h
  · rw [Int.tmod_eq_emod_of_nonneg h]; omega
  · obtain ⟨k, rfl⟩ : ∃ k, n = -k := ⟨-n, by omega⟩
    rw [Int.neg_tmod, Int.tmod_eq_emod_of_nonneg (by omega)]; omega

theorem unix_any (n : Int) (h1 : -9223372036854775808 ≤ n) (h2 : n ≤ 9223372036854775807) (w : World) : Calls Tryz.prog 84 #[.int .i64 0, .int .i64 n] w fun e w' => e = .returned (.agg #[.int .i64 (n / 1000000000), .int .i64 (n % 1000000000), .int .i64 0]) ∧ Below w.heap.size w w' := by
  have hb1 := (tmod_bd n).1
  have hb2 := (tmod_bd n).2
  have e1 := Int.mul_tdiv_add_tmod n 1000000000
  have hb3 : -9223372037 ≤ n.tdiv 1000000000 := by omega
  have hb4 : n.tdiv 1000000000 ≤ 9223372037 := by omega
  have E1 := Lib.hid e1
  clear e1
  go_enter Tryz.func84, Tryz.ntmps84
  go_wp2_with fail
  all_goals
    refine bodyPost_ret (v := .agg #[.int .i64 (n / 1000000000), .int .i64 (n % 1000000000), .int .i64 0]) ?_ rfl ⟨rfl, ?_⟩
    · have e1 := E1.out
      simp [results, Tryz.f84, go_sem]
      omega
    · first | exact (Below.refl _ _).alloc (Nat.le_refl _) _ | exact ((Below.refl w.heap.size w).alloc (Nat.le_refl _) _).setCell (by simp) _ | skip

theorem opNum_all : ∀ m : Fin 20, opNum (op m.val) = (m.val : Int) + 1 := by decide +kernel
theorem opNum_op {m : Nat} (hm : m < 20) : opNum (op m) = (m : Int) + 1 := opNum_all ⟨m, hm⟩
theorem logNum_and : logNum ⟨#[97, 110, 100]⟩ = 1 := by decide +kernel
theorem logNum_or : logNum ⟨#[111, 114]⟩ = 2 := by decide +kernel
theorem unary_op {s : ByteArray} (h : s ∈ unaryL) : ∃ m, m < 20 ∧ s = op m := by
  simp only [unaryL, List.mem_cons, List.not_mem_nil, or_false] at h
  rcases h with rfl | rfl | rfl | rfl
  · exact ⟨5, by omega, rfl⟩
  · exact ⟨4, by omega, rfl⟩
  · exact ⟨12, by omega, rfl⟩
  · exact ⟨13, by omega, rfl⟩
theorem wrap64_bd (n : Int) : -9223372036854775808 ≤ wrap64 n ∧ wrap64 n ≤ 9223372036854775807 := by
  unfold wrap64; omega
end Go.Proofs.YtongafghllkomaaGreatDoor
