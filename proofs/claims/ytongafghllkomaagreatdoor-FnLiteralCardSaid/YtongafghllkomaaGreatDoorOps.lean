/-
  Operators at this seat's numbers: how each is written, which is written so, and the specification's own numbers. No conditions.
-/
import Derived.Test.YtongafghllkomaaGreatDoorSmall
import Derived.WalkKit
import Derived.Lib.Hide
import Derived.BigQuiet
import Derived.Lib.QuietBelow
import Derived.Deep.RegionWith
import Derived.Lib.SlBytesRow
import Derived.Lib.Builder
namespace Go.Proofs.YtongafghllkomaaGreatDoor
open Go.RowKit
set_option linter.unusedVariables false

theorem tok_0 (w : World) : Calls Tryz.prog 130 #[.int .i64 1] w fun e w' => e = .returned (.string (op 0)) ∧ w = w' := by
  go_enter Tryz.func130, Tryz.ntmps130
  go_wp2
  go_ret
  exact ⟨rfl, rfl⟩

theorem tok_1 (w : World) : Calls Tryz.prog 130 #[.int .i64 2] w fun e w' => e = .returned (.string (op 1)) ∧ w = w' := by
  go_enter Tryz.func130, Tryz.ntmps130
  go_wp2
  go_ret
  exact ⟨rfl, rfl⟩

theorem tok_2 (w : World) : Calls Tryz.prog 130 #[.int .i64 3] w fun e w' => e = .returned (.string (op 2)) ∧ w = w' := by
  go_enter Tryz.func130, Tryz.ntmps130
  go_wp2
  go_ret
  exact ⟨rfl, rfl⟩

theorem tok_3 (w : World) : Calls Tryz.prog 130 #[.int .i64 4] w fun e w' => e = .returned (.string (op 3)) ∧ w = w' := by
  go_enter Tryz.func130, Tryz.ntmps130
  go_wp2
  go_ret
  exact ⟨rfl, rfl⟩

theorem tok_4 (w : World) : Calls Tryz.prog 130 #[.int .i64 5] w fun e w' => e = .returned (.string (op 4)) ∧ w = w' := by
  go_enter Tryz.func130, Tryz.ntmps130
  go_wp2
  go_ret
  exact ⟨rfl, rfl⟩

theorem tok_5 (w : World) : Calls Tryz.prog 130 #[.int .i64 6] w fun e w' => e = .returned (.string (op 5)) ∧ w = w' := by
  go_enter Tryz.func130, Tryz.ntmps130
  go_wp2
  go_ret
  exact ⟨rfl, rfl⟩

theorem tok_6 (w : World) : Calls Tryz.prog 130 #[.int .i64 7] w fun e w' => e = .returned (.string (op 6)) ∧ w = w' := by
  go_enter Tryz.func130, Tryz.ntmps130
  go_wp2
  go_ret
  exact ⟨rfl, rfl⟩

theorem tok_7 (w : World) : Calls Tryz.prog 130 #[.int .i64 8] w fun e w' => e = .returned (.string (op 7)) ∧ w = w' := by
  go_enter Tryz.func130, Tryz.ntmps130
  go_wp2
  go_ret
  exact ⟨rfl, rfl⟩

theorem tok_8 (w : World) : Calls Tryz.prog 130 #[.int .i64 9] w fun e w' => e = .returned (.string (op 8)) ∧ w = w' := by
  go_enter Tryz.func130, Tryz.ntmps130
  go_wp2
  go_ret
  exact ⟨rfl, rfl⟩

theorem tok_9 (w : World) : Calls Tryz.prog 130 #[.int .i64 10] w fun e w' => e = .returned (.string (op 9)) ∧ w = w' := by
  go_enter Tryz.func130, Tryz.ntmps130
  go_wp2
  go_ret
  exact ⟨rfl, rfl⟩

theorem tok_10 (w : World) : Calls Tryz.prog 130 #[.int .i64 11] w fun e w' => e = .returned (.string (op 10)) ∧ w = w' := by
  go_enter Tryz.func130, Tryz.ntmps130
  go_wp2
  go_ret
  exact ⟨rfl, rfl⟩

theorem tok_11 (w : World) : Calls Tryz.prog 130 #[.int .i64 12] w fun e w' => e = .returned (.string (op 11)) ∧ w = w' := by
  go_enter Tryz.func130, Tryz.ntmps130
  go_wp2
  go_ret
  exact ⟨rfl, rfl⟩

theorem tok_12 (w : World) : Calls Tryz.prog 130 #[.int .i64 13] w fun e w' => e = .returned (.string (op 12)) ∧ w = w' := by
  go_enter Tryz.func130, Tryz.ntmps130
  go_wp2
  go_ret
  exact ⟨rfl, rfl⟩

theorem tok_13 (w : World) : Calls Tryz.prog 130 #[.int .i64 14] w fun e w' => e = .returned (.string (op 13)) ∧ w = w' := by
  go_enter Tryz.func130, Tryz.ntmps130
  go_wp2
  go_ret
  exact ⟨rfl, rfl⟩

theorem tok_14 (w : World) : Calls Tryz.prog 130 #[.int .i64 15] w fun e w' => e = .returned (.string (op 14)) ∧ w = w' := by
  go_enter Tryz.func130, Tryz.ntmps130
  go_wp2
  go_ret
  exact ⟨rfl, rfl⟩

theorem tok_15 (w : World) : Calls Tryz.prog 130 #[.int .i64 16] w fun e w' => e = .returned (.string (op 15)) ∧ w = w' := by
  go_enter Tryz.func130, Tryz.ntmps130
  go_wp2
  go_ret
  exact ⟨rfl, rfl⟩

theorem tok_16 (w : World) : Calls Tryz.prog 130 #[.int .i64 17] w fun e w' => e = .returned (.string (op 16)) ∧ w = w' := by
  go_enter Tryz.func130, Tryz.ntmps130
  go_wp2
  go_ret
  exact ⟨rfl, rfl⟩

theorem tok_17 (w : World) : Calls Tryz.prog 130 #[.int .i64 18] w fun e w' => e = .returned (.string (op 17)) ∧ w = w' := by
  go_enter Tryz.func130, Tryz.ntmps130
  go_wp2
  go_ret
  exact ⟨rfl, rfl⟩

theorem tok_18 (w : World) : Calls Tryz.prog 130 #[.int .i64 19] w fun e w' => e = .returned (.string (op 18)) ∧ w = w' := by
  go_enter Tryz.func130, Tryz.ntmps130
  go_wp2
  go_ret
  exact ⟨rfl, rfl⟩

theorem tok_19 (w : World) : Calls Tryz.prog 130 #[.int .i64 20] w fun e w' => e = .returned (.string (op 19)) ∧ w = w' := by
  go_enter Tryz.func130, Tryz.ntmps130
  go_wp2
  go_ret
  exact ⟨rfl, rfl⟩

theorem tok_any (m : Nat) (hm : m < 20) (w : World) : Calls Tryz.prog 130 #[.int .i64 ((m : Int) + 1)] w fun e w' => e = .returned (.string (op m)) ∧ w = w' := by
  match m, hm with
  | 0, _ => exact tok_0 w
  | 1, _ => exact tok_1 w
  | 2, _ => exact tok_2 w
  | 3, _ => exact tok_3 w
  | 4, _ => exact tok_4 w
  | 5, _ => exact tok_5 w
  | 6, _ => exact tok_6 w
  | 7, _ => exact tok_7 w
  | 8, _ => exact tok_8 w
  | 9, _ => exact tok_9 w
  | 10, _ => exact tok_10 w
  | 11, _ => exact tok_11 w
  | 12, _ => exact tok_12 w
  | 13, _ => exact tok_13 w
  | 14, _ => exact tok_14 w
  | 15, _ => exact tok_15 w
  | 16, _ => exact tok_16 w
  | 17, _ => exact tok_17 w
  | 18, _ => exact tok_18 w
  | 19, _ => exact tok_19 w
  | n + 20, h => exact absurd h (by omega)

theorem ops_ne (i j : Nat) (hi : i < 20) (hj : j < 20) (h : i ≠ j) : ((op i).toList == (op j).toList) = false := by
  have H : ∀ i : Fin 20, ∀ j : Fin 20, i ≠ j → ((op i.1).toList == (op j.1).toList) = false := by decide +kernel
  exact H ⟨i, hi⟩ ⟨j, hj⟩ (fun e => h (by simpa using e))

theorem opOf (m : Nat) (hm : m < 20) (w : World) : Calls Tryz.prog 148 #[.string (op m)] w fun e w' => e = .returned (.int .i64 ((m : Int) + 1)) ∧ w = w' := by
  go_enter Tryz.func148, Tryz.ntmps148
  go_wp2
  go_loop [3] (fun t => ∃ k : Nat, k ≤ m ∧ t = .int .i64 ((k : Int) + 1)) (fun t => 21 - (intOf t).toNat)
  case atStart => exact ⟨0, Nat.zero_le _, rfl⟩
  case round =>
    obtain ⟨k, hk, rfl⟩ := hrel
    by_cases h : k < m
    · have hne := ops_ne k m (by omega) hm (by omega)
      go_wp2_with (go_at_call 130; refine (tok_any _ (by omega) _).mono ?_; rintro e w' ⟨rfl, rfl⟩)
      go_round
      case rel => exact ⟨k + 1, by omega, by go_num⟩
      case measure => simp [intOf]; omega
    · obtain rfl : k = m := by omega
      have heq : ((op k).toList == (op k).toList) = true := by simp
      go_wp2_with (go_at_call 130; refine (tok_any _ (by omega) _).mono ?_; rintro e w' ⟨rfl, rfl⟩)
      go_ret
      exact ⟨rfl, rfl⟩


/-- The list of the operators in a world. -/
def Row (b : Nat) (w : World) : Prop := ∀ i, i < 20 → w.cell? ⟨b, i, none⟩ = some (.string (op i))

theorem list_any (w : World) : Calls Tryz.prog 156 #[] w fun e w' => ∃ b, e = .returned (.slice (some ⟨b, 0, none⟩) 20 20) ∧ Row b w' ∧ Below w.heap.size w w' := by
  go_enter Tryz.func156, Tryz.ntmps156
  go_wp2
  go_ret
  refine ⟨w.heap.size, rfl, ?_, (Below.refl _ _).alloc (Nat.le_refl _) _⟩
  intro i hi
  match i, hi with
  | 0, _ => simp [go_sem]; rfl
  | 1, _ => simp [go_sem]; rfl
  | 2, _ => simp [go_sem]; rfl
  | 3, _ => simp [go_sem]; rfl
  | 4, _ => simp [go_sem]; rfl
  | 5, _ => simp [go_sem]; rfl
  | 6, _ => simp [go_sem]; rfl
  | 7, _ => simp [go_sem]; rfl
  | 8, _ => simp [go_sem]; rfl
  | 9, _ => simp [go_sem]; rfl
  | 10, _ => simp [go_sem]; rfl
  | 11, _ => simp [go_sem]; rfl
  | 12, _ => simp [go_sem]; rfl
  | 13, _ => simp [go_sem]; rfl
  | 14, _ => simp [go_sem]; rfl
  | 15, _ => simp [go_sem]; rfl
  | 16, _ => simp [go_sem]; rfl
  | 17, _ => simp [go_sem]; rfl
  | 18, _ => simp [go_sem]; rfl
  | 19, _ => simp [go_sem]; rfl
  | n + 20, h => exact absurd h (by omega)

theorem num_yes (m : Nat) (hm : m < 20) (w : World) : Calls Tryz.prog 137 #[.string (op m)] w fun e w' => e = .returned (.int .i64 ((m : Int) + 1)) ∧ Below w.heap.size w w' := by
  go_enter Tryz.func137, Tryz.ntmps137
  go_wp2_with (go_at_call 156; refine (list_any _).mono ?_; rintro e w1 ⟨b, rfl, hr, hb⟩)
  go_loop [7] (fun t => ∃ k : Nat, k ≤ m ∧ t = .int .i64 (k : Int)) (fun t => 21 - (intOf t).toNat)
  case atStart => exact ⟨0, Nat.zero_le _, rfl⟩
  case round =>
    obtain ⟨k, hk, rfl⟩ := hrel
    have hc : w1.cell? ⟨b, k, none⟩ = some (.string (op k)) := hr k (by omega)
    by_cases h : k < m
    · have hne := ops_ne k m (by omega) hm (by omega)
      go_wp2
      go_round
      case rel => exact ⟨k + 1, by omega, by go_num⟩
      case measure => simp [intOf]; omega
    · obtain rfl : k = m := by omega
      have heq : ((op k).toList == (op k).toList) = true := by simp
      go_wp2
      go_ret
      exact ⟨rfl, hb⟩

theorem num_no (s : ByteArray) (hs : ∀ i, i < 20 → ((op i).toList == s.toList) = false) (w : World) : Calls Tryz.prog 137 #[.string s] w fun e w' => e = .returned (.int .i64 0) ∧ Below w.heap.size w w' := by
  have HS := Lib.hid hs
  clear hs
  go_enter Tryz.func137, Tryz.ntmps137
  go_wp2_with (go_at_call 156; refine (list_any _).mono ?_; rintro e w1 ⟨b, rfl, hr, hb⟩)
  go_loop [7] (fun t => ∃ k : Nat, k ≤ 20 ∧ t = .int .i64 (k : Int)) (fun t => 21 - (intOf t).toNat)
  case atStart => exact ⟨0, Nat.zero_le _, rfl⟩
  case round =>
    obtain ⟨k, hk, rfl⟩ := hrel
    by_cases h : k < 20
    · have hc : w1.cell? ⟨b, k, none⟩ = some (.string (op k)) := hr k (by omega)
      have hne := HS.out k h
      go_wp2
      go_round
      case rel => exact ⟨k + 1, by omega, by go_num⟩
      case measure => simp [intOf]; omega
    · go_wp2
      go_ret
      exact ⟨rfl, hb⟩

def isOp (s : ByteArray) : Prop := ∃ m, m < 20 ∧ s = op m

theorem not_op {s : ByteArray} (h : ¬ isOp s) : ∀ i, i < 20 → ((op i).toList == s.toList) = false := by
  intro i hi
  rw [beq_eq_false_iff_ne]
  intro e
  apply h
  refine ⟨i, hi, ?_⟩
  have e2 : (op i).data.toList = s.data.toList := by rw [← Lib.toList_data, ← Lib.toList_data, e]
  exact (ByteArray.ext (Array.toList_inj.1 e2)).symm

theorem num0_no (s : ByteArray) (h : ¬ isOp s) (w : World) : Calls Tryz.prog 137 #[.string s] w fun e w' => e = .returned (.int .i64 0) ∧ Below w.heap.size w w' := num_no s (not_op h) w


end Go.Proofs.YtongafghllkomaaGreatDoor
