/-
  FnOperator: for every two texts the law returns true. No conditions.
-/
import Derived.Test.YteecbmhkfnlecaaRows
import Derived.WalkKit
import Derived.ProofKit
import Derived.OpenShut
import Derived.Lib.Hide
import Derived.BigQuiet
import Derived.Lib.QuietBelow
import Derived.Deep.RegionWith
import Derived.Lib.SlBytesRow
import Derived.Lib.Builder
namespace Go.Proofs.Yteecbmhkfnlecaa.fnOperator
open Go.ChangeShapes Go.WideShapes Go.ChangeAt Go.RowKit
open Go.ChangeMaps (open_string shut_string)
set_option linter.unusedVariables false

/-- The operators by their numbers less one. -/
def opsL : List ByteArray := [⟨#[42]⟩, ⟨#[47]⟩, ⟨#[37]⟩, ⟨#[94]⟩, ⟨#[43]⟩, ⟨#[45]⟩, ⟨#[60, 61]⟩, ⟨#[60]⟩, ⟨#[62, 61]⟩, ⟨#[62]⟩, ⟨#[115, 116, 97, 114, 116, 115, 119, 105, 116, 104]⟩, ⟨#[105, 110]⟩, ⟨#[110, 111, 116]⟩, ⟨#[101, 120, 105, 115, 116, 115]⟩, ⟨#[110, 111, 116, 32, 101, 109, 112, 116, 121]⟩, ⟨#[101, 109, 112, 116, 121]⟩, ⟨#[61, 61]⟩, ⟨#[33, 61]⟩, ⟨#[61, 126]⟩, ⟨#[33, 126]⟩]
def op (m : Nat) : ByteArray := opsL.getD m ⟨#[]⟩

theorem tok_0 (w : World) : Calls Try.prog 41 #[.int .i64 1] w fun e w' => e = .returned (.string (op 0)) ∧ w = w' := by
  go_enter Try.func41, Try.ntmps41
  go_wp2
  go_ret
  exact ⟨rfl, rfl⟩

theorem tok_1 (w : World) : Calls Try.prog 41 #[.int .i64 2] w fun e w' => e = .returned (.string (op 1)) ∧ w = w' := by
  go_enter Try.func41, Try.ntmps41
  go_wp2
  go_ret
  exact ⟨rfl, rfl⟩

theorem tok_2 (w : World) : Calls Try.prog 41 #[.int .i64 3] w fun e w' => e = .returned (.string (op 2)) ∧ w = w' := by
  go_enter Try.func41, Try.ntmps41
  go_wp2
  go_ret
  exact ⟨rfl, rfl⟩

theorem tok_3 (w : World) : Calls Try.prog 41 #[.int .i64 4] w fun e w' => e = .returned (.string (op 3)) ∧ w = w' := by
  go_enter Try.func41, Try.ntmps41
  go_wp2
  go_ret
  exact ⟨rfl, rfl⟩

theorem tok_4 (w : World) : Calls Try.prog 41 #[.int .i64 5] w fun e w' => e = .returned (.string (op 4)) ∧ w = w' := by
  go_enter Try.func41, Try.ntmps41
  go_wp2
  go_ret
  exact ⟨rfl, rfl⟩

theorem tok_5 (w : World) : Calls Try.prog 41 #[.int .i64 6] w fun e w' => e = .returned (.string (op 5)) ∧ w = w' := by
  go_enter Try.func41, Try.ntmps41
  go_wp2
  go_ret
  exact ⟨rfl, rfl⟩

theorem tok_6 (w : World) : Calls Try.prog 41 #[.int .i64 7] w fun e w' => e = .returned (.string (op 6)) ∧ w = w' := by
  go_enter Try.func41, Try.ntmps41
  go_wp2
  go_ret
  exact ⟨rfl, rfl⟩

theorem tok_7 (w : World) : Calls Try.prog 41 #[.int .i64 8] w fun e w' => e = .returned (.string (op 7)) ∧ w = w' := by
  go_enter Try.func41, Try.ntmps41
  go_wp2
  go_ret
  exact ⟨rfl, rfl⟩

theorem tok_8 (w : World) : Calls Try.prog 41 #[.int .i64 9] w fun e w' => e = .returned (.string (op 8)) ∧ w = w' := by
  go_enter Try.func41, Try.ntmps41
  go_wp2
  go_ret
  exact ⟨rfl, rfl⟩

theorem tok_9 (w : World) : Calls Try.prog 41 #[.int .i64 10] w fun e w' => e = .returned (.string (op 9)) ∧ w = w' := by
  go_enter Try.func41, Try.ntmps41
  go_wp2
  go_ret
  exact ⟨rfl, rfl⟩

theorem tok_10 (w : World) : Calls Try.prog 41 #[.int .i64 11] w fun e w' => e = .returned (.string (op 10)) ∧ w = w' := by
  go_enter Try.func41, Try.ntmps41
  go_wp2
  go_ret
  exact ⟨rfl, rfl⟩

theorem tok_11 (w : World) : Calls Try.prog 41 #[.int .i64 12] w fun e w' => e = .returned (.string (op 11)) ∧ w = w' := by
  go_enter Try.func41, Try.ntmps41
  go_wp2
  go_ret
  exact ⟨rfl, rfl⟩

theorem tok_12 (w : World) : Calls Try.prog 41 #[.int .i64 13] w fun e w' => e = .returned (.string (op 12)) ∧ w = w' := by
  go_enter Try.func41, Try.ntmps41
  go_wp2
  go_ret
  exact ⟨rfl, rfl⟩

theorem tok_13 (w : World) : Calls Try.prog 41 #[.int .i64 14] w fun e w' => e = .returned (.string (op 13)) ∧ w = w' := by
  go_enter Try.func41, Try.ntmps41
  go_wp2
  go_ret
  exact ⟨rfl, rfl⟩

theorem tok_14 (w : World) : Calls Try.prog 41 #[.int .i64 15] w fun e w' => e = .returned (.string (op 14)) ∧ w = w' := by
  go_enter Try.func41, Try.ntmps41
  go_wp2
  go_ret
  exact ⟨rfl, rfl⟩

theorem tok_15 (w : World) : Calls Try.prog 41 #[.int .i64 16] w fun e w' => e = .returned (.string (op 15)) ∧ w = w' := by
  go_enter Try.func41, Try.ntmps41
  go_wp2
  go_ret
  exact ⟨rfl, rfl⟩

theorem tok_16 (w : World) : Calls Try.prog 41 #[.int .i64 17] w fun e w' => e = .returned (.string (op 16)) ∧ w = w' := by
  go_enter Try.func41, Try.ntmps41
  go_wp2
  go_ret
  exact ⟨rfl, rfl⟩

theorem tok_17 (w : World) : Calls Try.prog 41 #[.int .i64 18] w fun e w' => e = .returned (.string (op 17)) ∧ w = w' := by
  go_enter Try.func41, Try.ntmps41
  go_wp2
  go_ret
  exact ⟨rfl, rfl⟩

theorem tok_18 (w : World) : Calls Try.prog 41 #[.int .i64 19] w fun e w' => e = .returned (.string (op 18)) ∧ w = w' := by
  go_enter Try.func41, Try.ntmps41
  go_wp2
  go_ret
  exact ⟨rfl, rfl⟩

theorem tok_19 (w : World) : Calls Try.prog 41 #[.int .i64 20] w fun e w' => e = .returned (.string (op 19)) ∧ w = w' := by
  go_enter Try.func41, Try.ntmps41
  go_wp2
  go_ret
  exact ⟨rfl, rfl⟩

theorem tok_any (m : Nat) (hm : m < 20) (w : World) : Calls Try.prog 41 #[.int .i64 ((m : Int) + 1)] w fun e w' => e = .returned (.string (op m)) ∧ w = w' := by
  match m, hm with
  | 0, _ => exact tok_0 w
  | 1, _ => exact tok_1 w
  | 2, _ => exact tok_2 w
  | 3, _ => exact tok_3 w
  | 4, _ => exact tok_4 w
  | 5, _ => exact tok_5 w
  | 6, _ => exact tok_6 w
  | 7, _ => exact tok_7 w
  | 8, _ => exact tok_8 w
  | 9, _ => exact tok_9 w
  | 10, _ => exact tok_10 w
  | 11, _ => exact tok_11 w
  | 12, _ => exact tok_12 w
  | 13, _ => exact tok_13 w
  | 14, _ => exact tok_14 w
  | 15, _ => exact tok_15 w
  | 16, _ => exact tok_16 w
  | 17, _ => exact tok_17 w
  | 18, _ => exact tok_18 w
  | 19, _ => exact tok_19 w
  | n + 20, h => exact absurd h (by omega)

theorem ops_ne (i j : Nat) (hi : i < 20) (hj : j < 20) (h : i ≠ j) : ((op i).toList == (op j).toList) = false := by
  have H : ∀ i : Fin 20, ∀ j : Fin 20, i ≠ j → ((op i.1).toList == (op j.1).toList) = false := by decide +kernel
  exact H ⟨i, hi⟩ ⟨j, hj⟩ (fun e => h (by simpa using e))

theorem opOf (m : Nat) (hm : m < 20) (w : World) : Calls Try.prog 40 #[.string (op m)] w fun e w' => e = .returned (.int .i64 ((m : Int) + 1)) ∧ w = w' := by
  go_enter Try.func40, Try.ntmps40
  go_wp2
  go_loop [3] (fun t => ∃ k : Nat, k ≤ m ∧ t = .int .i64 ((k : Int) + 1)) (fun t => 21 - (intOf t).toNat)
  case atStart => exact ⟨0, Nat.zero_le _, rfl⟩
  case round =>
    obtain ⟨k, hk, rfl⟩ := hrel
    by_cases h : k < m
    · have hne := ops_ne k m (by omega) hm (by omega)
      go_wp2_with (go_at_call 41; refine (tok_any _ (by omega) _).mono ?_; rintro e w' ⟨rfl, rfl⟩)
      go_round
      case rel => exact ⟨k + 1, by omega, by go_num⟩
      case measure => simp [intOf]; omega
    · obtain rfl : k = m := by omega
      have heq : ((op k).toList == (op k).toList) = true := by simp
      go_wp2_with (go_at_call 41; refine (tok_any _ (by omega) _).mono ?_; rintro e w' ⟨rfl, rfl⟩)
      go_ret
      exact ⟨rfl, rfl⟩

theorem bblk {W w1 : World} (hb : Below W.heap.size W w1) {b : Nat} (h : b < W.heap.size) : (∀ o, w1.cell? ⟨b, o, none⟩ = W.cell? ⟨b, o, none⟩) ∧ (∀ o, w1.frozen? ⟨b, o, none⟩ = W.frozen? ⟨b, o, none⟩) :=
  ⟨fun o => hb.cell (p := ⟨b, o, none⟩) h, fun o => hb.frozen (p := ⟨b, o, none⟩) h⟩

/-- The list of the operators, in a row of its own. -/
def Row (b : Nat) (w : World) : Prop := ∀ i, i < 20 → w.cell? ⟨b, i, none⟩ = some (.string (op i))

theorem list_any (w : World) : Calls Try.prog 31 #[] w fun e w' => ∃ b, e = .returned (.slice (some ⟨b, 0, none⟩) 20 20) ∧ Row b w' ∧ Below w.heap.size w w' := by
  go_enter Try.func31, Try.ntmps31
  go_wp2
  go_ret
  refine ⟨w.heap.size, rfl, ?_, (Below.refl _ _).alloc (Nat.le_refl _) _⟩
  intro i hi
  match i, hi with
  | 0, _ => simp [go_sem]; rfl
  | 1, _ => simp [go_sem]; rfl
  | 2, _ => simp [go_sem]; rfl
  | 3, _ => simp [go_sem]; rfl
  | 4, _ => simp [go_sem]; rfl
  | 5, _ => simp [go_sem]; rfl
  | 6, _ => simp [go_sem]; rfl
  | 7, _ => simp [go_sem]; rfl
  | 8, _ => simp [go_sem]; rfl
  | 9, _ => simp [go_sem]; rfl
  | 10, _ => simp [go_sem]; rfl
  | 11, _ => simp [go_sem]; rfl
  | 12, _ => simp [go_sem]; rfl
  | 13, _ => simp [go_sem]; rfl
  | 14, _ => simp [go_sem]; rfl
  | 15, _ => simp [go_sem]; rfl
  | 16, _ => simp [go_sem]; rfl
  | 17, _ => simp [go_sem]; rfl
  | 18, _ => simp [go_sem]; rfl
  | 19, _ => simp [go_sem]; rfl
  | n + 20, h => exact absurd h (by omega)

theorem num_yes (m : Nat) (hm : m < 20) (w : World) : Calls Try.prog 18 #[.string (op m)] w fun e w' => e = .returned (.int .i64 ((m : Int) + 1)) ∧ Below w.heap.size w w' := by
  go_enter Try.func18, Try.ntmps18
  go_wp2_with (go_at_call 31; refine (list_any _).mono ?_; rintro e w1 ⟨b, rfl, hr, hb⟩)
  go_loop [7] (fun t => ∃ k : Nat, k ≤ m ∧ t = .int .i64 (k : Int)) (fun t => 21 - (intOf t).toNat)
  case atStart => exact ⟨0, Nat.zero_le _, rfl⟩
  case round =>
    obtain ⟨k, hk, rfl⟩ := hrel
    have hc : w1.cell? ⟨b, k, none⟩ = some (.string (op k)) := hr k (by omega)
    by_cases h : k < m
    · have hne := ops_ne k m (by omega) hm (by omega)
      go_wp2
      go_round
      case rel => exact ⟨k + 1, by omega, by go_num⟩
      case measure => simp [intOf]; omega
    · obtain rfl : k = m := by omega
      have heq : ((op k).toList == (op k).toList) = true := by simp
      go_wp2
      go_ret
      exact ⟨rfl, hb⟩

theorem num_no (s : ByteArray) (hs : ∀ i, i < 20 → ((op i).toList == s.toList) = false) (w : World) : Calls Try.prog 18 #[.string s] w fun e w' => e = .returned (.int .i64 0) ∧ Below w.heap.size w w' := by
  have HS := Lib.hid hs
  clear hs
  go_enter Try.func18, Try.ntmps18
  go_wp2_with (go_at_call 31; refine (list_any _).mono ?_; rintro e w1 ⟨b, rfl, hr, hb⟩)
  go_loop [7] (fun t => ∃ k : Nat, k ≤ 20 ∧ t = .int .i64 (k : Int)) (fun t => 21 - (intOf t).toNat)
  case atStart => exact ⟨0, Nat.zero_le _, rfl⟩
  case round =>
    obtain ⟨k, hk, rfl⟩ := hrel
    by_cases h : k < 20
    · have hc : w1.cell? ⟨b, k, none⟩ = some (.string (op k)) := hr k (by omega)
      have hne := HS.out k h
      go_wp2
      go_round
      case rel => exact ⟨k + 1, by omega, by go_num⟩
      case measure => simp [intOf]; omega
    · go_wp2
      go_ret
      exact ⟨rfl, hb⟩

theorem oper_any (m : Nat) (hm : m < 20) (w : World) : Calls Try.prog 17 #[.string (op m)] w fun e w' => e = .returned (.tuple #[.int .i64 ((m : Int) + 1), .string (op m)]) ∧ w = w' := by
  go_enter Try.func17, Try.ntmps17
  go_wp2_with (first | (go_at_call 40; refine (opOf m hm _).mono ?_; rintro e w' ⟨rfl, rfl⟩) | (go_at_call 41; refine (tok_any m hm _).mono ?_; rintro e w' ⟨rfl, rfl⟩) | go_in)
  go_ret2
  exact ⟨rfl, rfl⟩

theorem op_ne (m : Nat) (hm : m < 20) : (op m).toList.isEmpty = false := by
  have H : ∀ i : Fin 20, (op i.1).toList.isEmpty = false := by decide +kernel
  exact H ⟨m, hm⟩


theorem below_drewN {B : Nat} {a w : World} (h : Below B a w) (n : Nat) : Below B a (w.drewN n) := ⟨h.os, h.tape, h.output, h.size, h.block⟩

theorem bytes_laid (s : ByteArray) (cap : Nat) (w : World) (e : TypeId) (fz : Nat × Nat) : Lib.Bytes (w.alloc (.cells (bytesRow s cap) e fz)) w.heap.size 0 s := by
  intro i hi
  have hb : (w.alloc (.cells (bytesRow s cap) e fz)).heap[w.heap.size]? = some (.cells (bytesRow s cap) e fz) := (MapKept.heap_alloc w _).1
  have hc : (bytesRow s cap)[i]? = some (.int .u8 (s[i].toNat : Int)) := by
    unfold bytesRow
    rw [Array.getElem?_append_left (by simpa using hi)]
    simp [ByteArray.getElem_eq_getElem_data, hi]
  rw [Nat.zero_add, Lib.cell_of_heap hb, hc]

theorem marshal_any (m : Nat) (hm : m < 20) (w : World) : Calls Try.prog 32 #[.int .i64 ((m : Int) + 1)] w fun e w' => ∃ b cap, e = .returned (.tuple #[.slice (some ⟨b, 0, none⟩) (op m).size cap, .nilIface]) ∧ Lib.Bytes w' b 0 (op m) ∧ Below w.heap.size w w' := by
  have hne := op_ne m hm
  have kc := fun w => run_bytes_of_string (P := Try.prog) w 9 72 5 (op m) Try.underlying9 Try.underlying72 Try.underlying5
  go_enter Try.func32, Try.ntmps32
  go_wp2_with (first | (go_at_call 41; refine (tok_any m hm _).mono ?_; rintro e w' ⟨rfl, rfl⟩))
  go_ret2
  exact ⟨_, _, rfl, bytes_laid _ _ _ _ _, ((Below.refl _ _).alloc (Nat.le_refl _) _).drew⟩

theorem text_any (m : Nat) (hm : m < 20) (w : World) : Calls Try.prog 19 #[.int .i64 ((m : Int) + 1)] w fun e w' => e = .returned (.tuple #[.string (op m), .bool true]) ∧ Below w.heap.size w w' := by
  go_enter Try.func19, Try.ntmps19
  go_wp2_with (first | (go_at_call 32; refine (marshal_any m hm _).mono ?_; rintro e w1 ⟨b, cap, rfl, hB, hb⟩; have kq := fun n => Lib.run_convert_whole (P := Try.prog) (w1.drewN n) 72 5 9 Try.underlying72 Try.underlying5 Try.underlying9 b 0 (op m) (hB.drewN n) cap))
  go_quiet (fail)
  go_wp2
  go_ret2
  exact ⟨rfl, below_drewN ‹Below _ _ _› _⟩

def isOp (s : ByteArray) : Prop := ∃ m, m < 20 ∧ s = op m

theorem not_op {s : ByteArray} (h : ¬ isOp s) : ∀ i, i < 20 → ((op i).toList == s.toList) = false := by
  intro i hi
  rw [beq_eq_false_iff_ne]
  intro e
  apply h
  refine ⟨i, hi, ?_⟩
  have e2 : (op i).data.toList = s.data.toList := by rw [← Lib.toList_data, ← Lib.toList_data, e]
  exact (ByteArray.ext (Array.toList_inj.1 e2)).symm

theorem num0_no (s : ByteArray) (h : ¬ isOp s) (w : World) : Calls Try.prog 18 #[.string s] w fun e w' => e = .returned (.int .i64 0) ∧ Below w.heap.size w w' := num_no s (not_op h) w

theorem plus : op 4 = ⟨#[43]⟩ := rfl

theorem oper_plus (w : World) : Calls Try.prog 17 #[.string ⟨#[43]⟩] w fun e w' => e = .returned (.tuple #[.int .i64 5, .string ⟨#[43]⟩]) ∧ w = w' := oper_any 4 (by omega) w

set_option maxHeartbeats 400000 in
theorem walk_big1 (s t : ByteArray) (w : World) (h : 2147483647 < s.size) :
    Calls Try.prog 8 #[.string s, .string t] w fun e w' => e = .returned (.bool true) ∧ Below w.heap.size w w' := by
  go_enter Try.func8, Try.ntmps8
  go_wp2_with fail
  go_ret
  exact ⟨rfl, Below.refl _ _⟩

set_option maxHeartbeats 400000 in
theorem walk_big2 (s t : ByteArray) (w : World) (h0 : ¬ 2147483647 < s.size) (h : 2147483647 < t.size) :
    Calls Try.prog 8 #[.string s, .string t] w fun e w' => e = .returned (.bool true) ∧ Below w.heap.size w w' := by
  go_enter Try.func8, Try.ntmps8
  go_wp2_with fail
  go_ret
  exact ⟨rfl, Below.refl _ _⟩

set_option maxHeartbeats 400000 in
theorem walk_no1 (s t : ByteArray) (w : World) (h0 : ¬ 2147483647 < s.size) (h1 : ¬ 2147483647 < t.size) (h : ¬ isOp s) :
    Calls Try.prog 8 #[.string s, .string t] w fun e w' => e = .returned (.bool true) ∧ Below w.heap.size w w' := by
  have H := Lib.hid h
  clear h
  go_enter Try.func8, Try.ntmps8
  go_wp2_with (first | (go_at_call 17; refine (oper_plus _).mono ?_; rintro e w1 ⟨rfl, rfl⟩) | (go_at_call 18; refine (num0_no s H.out _).mono ?_; rintro e w2 ⟨rfl, hb2⟩))
  go_ret
  exact ⟨rfl, by assumption⟩

set_option maxHeartbeats 400000 in
theorem walk_no2 (m : Nat) (hm : m < 20) (t : ByteArray) (w : World) (h0 : ¬ 2147483647 < (op m).size) (h1 : ¬ 2147483647 < t.size) (h : ¬ isOp t) :
    Calls Try.prog 8 #[.string (op m), .string t] w fun e w' => e = .returned (.bool true) ∧ Below w.heap.size w w' := by
  have H := Lib.hid h
  clear h
  have hz : (((m : Int) + 1) == 0) = false := by simp; omega
  go_enter Try.func8, Try.ntmps8
  go_wp2_with (first | (go_at_call 17; refine (oper_plus _).mono ?_; rintro e w1 ⟨rfl, rfl⟩) | (go_at_call_of 18 (op m); refine (num_yes m hm _).mono ?_; rintro e w2 ⟨rfl, hb2⟩) | (go_at_call_of 18 t; refine (num0_no t H.out _).mono ?_; rintro e w3 ⟨rfl, hb3⟩))
  go_ret
  exact ⟨rfl, hb2.trans (hb3.mono hb2.size)⟩

set_option maxHeartbeats 400000 in
theorem walk_ne (m k : Nat) (hm : m < 20) (hk : k < 20) (hmk : m ≠ k) (w : World) (h0 : ¬ 2147483647 < (op m).size) (h1 : ¬ 2147483647 < (op k).size) :
    Calls Try.prog 8 #[.string (op m), .string (op k)] w fun e w' => e = .returned (.bool true) ∧ Below w.heap.size w w' := by
  have hz : (((m : Int) + 1) == 0) = false := by simp; omega
  have hz2 : (((k : Int) + 1) == 0) = false := by simp; omega
  have he : ((op m).toList == (op m).toList) = true := by simp
  have hne := ops_ne m k hm hk hmk
  have hn : (((m : Int) + 1) == ((k : Int) + 1)) = false := by simp; omega
  have HN := Lib.hid hmk
  clear hmk
  go_enter Try.func8, Try.ntmps8
  go_wp2_with (first | (go_at_call_of 17 (op m); refine (oper_any m hm _).mono ?_; rintro e w1 ⟨rfl, rfl⟩) | (go_at_call_of 17 (op k); refine (oper_any k hk _).mono ?_; rintro e w1 ⟨rfl, rfl⟩) | (go_at_call 17; refine (oper_plus _).mono ?_; rintro e w1 ⟨rfl, rfl⟩) | (go_at_call_of 18 (op m); refine (num_yes m hm _).mono ?_; rintro e w2 ⟨rfl, hb2⟩) | (go_at_call_of 18 (op k); refine (num_yes k hk _).mono ?_; rintro e w3 ⟨rfl, hb3⟩) | (go_at_call 19; refine (text_any m hm _).mono ?_; rintro e w4 ⟨rfl, hb4⟩))
  go_ret
  exact ⟨rfl, (hb2.trans (hb3.mono hb2.size)).trans (hb4.mono (Nat.le_trans hb2.size hb3.size))⟩

set_option maxHeartbeats 400000 in
theorem walk_eq (m : Nat) (hm : m < 20) (w : World) (h0 : ¬ 2147483647 < (op m).size) :
    Calls Try.prog 8 #[.string (op m), .string (op m)] w fun e w' => e = .returned (.bool true) ∧ Below w.heap.size w w' := by
  have hz : (((m : Int) + 1) == 0) = false := by simp; omega
  have he : ((op m).toList == (op m).toList) = true := by simp
  go_enter Try.func8, Try.ntmps8
  go_wp2_with (first | (go_at_call_of 17 (op m); refine (oper_any m hm _).mono ?_; rintro e w1 ⟨rfl, rfl⟩) | (go_at_call 17; refine (oper_plus _).mono ?_; rintro e w1 ⟨rfl, rfl⟩) | (go_at_call_of 18 (op m); refine (num_yes m hm _).mono ?_; rintro e w2 ⟨rfl, hb2⟩) | (go_at_call 19; refine (text_any m hm _).mono ?_; rintro e w4 ⟨rfl, hb4⟩))
  go_ret
  exact ⟨rfl, by
    rename_i wa hba
    exact (hba.trans (hb2.mono hba.size)).trans (hb4.mono (Nat.le_trans hba.size hb2.size))⟩

theorem walk (s t : ByteArray) (w : World) :
    Calls Try.prog 8 #[.string s, .string t] w fun e w' => e = .returned (.bool true) ∧ Below w.heap.size w w' := by
  by_cases h0 : 2147483647 < s.size
  · exact walk_big1 s t w h0
  by_cases h1 : 2147483647 < t.size
  · exact walk_big2 s t w h0 h1
  by_cases hs : isOp s
  · obtain ⟨m, hm, rfl⟩ := hs
    by_cases ht : isOp t
    · obtain ⟨k, hk, rfl⟩ := ht
      by_cases hmk : m = k
      · subst hmk
        exact walk_eq m hm w h0
      · exact walk_ne m k hm hk hmk w h0 h1
    · exact walk_no2 m hm t w h0 h1 ht
  · exact walk_no1 s t w h0 h1 hs

theorem own : ownKnob Try.prog.godebug = none := by kernel_rfl
theorem laidOut : laidOutB Try.prog = true := by kernel_rfl

set_option maxRecDepth 100000 in
theorem lifted (os : Os) (started : os.Started) (H : Type) (enc : TypeId × Value → H) :
    ReturnsInHanded {} Try.checked os 8 .any (Rows.fnOperatorSpec.pre6 enc Try.prog Try.f8 Rows.fnOperatorRow.domain false) (Rows.fnOperatorSpec.post enc Try.prog Try.f8 false true false false) := by
  refine returnsInHanded_of_change (C := Try.checked) own started (by kernel_rfl) Try.func8
    (ChangeSpec.witness6 (enc := enc) (C := Try.checked) false ⟨#[], #[.string ByteArray.empty, .string ByteArray.empty], []⟩ 8 (by kernel_rfl) (by kernel_rfl) (by kernel_rfl) (by kernel_rfl)) ?_
  intro W base args ds gs before hval0 hW hcnd _
  have hval : ∀ (j : Nat) t v, Try.f8.params[j]? = some t → args[j]? = some v → Value.okWide Try.prog W .any base t v := hval0
  have hW' := hW
  obtain ⟨p, q, hA0, hV, rfl, hfz, hnd⟩ := hW
  have hA : DataW.TrodAll enc Try.prog W 0 (fun _ => true) true Try.f8.params.toList args.toList ds p := hA0
  rw [Try.params8] at hA hval
  obtain ⟨v0, vs0, d0, ds0, p0, q0, hargs, rfl, rfl, h0, r0⟩ := trodAll_cons hA
  obtain ⟨v1, vs1, d1, ds1, p1, q1, rfl, rfl, rfl, h1, r1⟩ := trodAll_cons r0
  obtain ⟨rfl, rfl, rfl⟩ := trodAll_nil r1
  obtain rfl : args = #[v0, v1] := by cases args; simp_all
  obtain ⟨rfl, rfl⟩ := trodVars_none hV
  have k0 := h0
  have k1 := h1
  have lt0 : ∀ x ∈ p0, x.block < W.heap.size := by obtain ⟨m, hm⟩ := k0; exact DataW.trod_lt m _ _ _ hm
  have lt1 : ∀ x ∈ p1, x.block < W.heap.size := by obtain ⟨m, hm⟩ := k1; exact DataW.trod_lt m _ _ _ hm
  obtain ⟨s, rfl, -, -, -⟩ := open_string Try.underlying9 (hval 0 9 v0 rfl rfl) h0
  obtain ⟨t, rfl, -, -, -⟩ := open_string Try.underlying9 (hval 1 9 v1 rfl rfl) h1
  clear hA0 hval0
  refine (walk s t W).mono fun e W' ⟨he, bel⟩ => ?_
  subst he
  exact ⟨_, rfl, _, _, _, [], _, [], hW', trodAll_mk1 (shut_bool Try.underlying4 _), (trodAll_cons_mk (Below.trod laidOut (by kernel_rfl) (of_decide_eq_true (by kernel_rfl)) k0 bel lt0) (trodAll_cons_mk (Below.trod laidOut (by kernel_rfl) (of_decide_eq_true (by kernel_rfl)) k1 bel lt1) trodAll_mk0)), rfl, bel.frame _, fun h => by cases h⟩

theorem over : Rows.fnOperatorRow.holds Try.pinned (OpenSpec.ofChange Rows.fnOperatorSpec) :=
  OpenClaim.holds_of_wide 8 Try.f8 rfl rfl rfl rfl rfl rfl rfl ⟨rfl, rfl, rfl, rfl, rfl⟩ rfl rfl rfl rfl rfl (by kernel_rfl) Try.func8 (by kernel_rfl)
    (of_decide_eq_true (by kernel_rfl)) (by unfold Func.isWrapper; first | (rw [if_pos (by decide +kernel)]; kernel_rfl) | (rw [if_neg (by decide +kernel)]; exact ⟨rfl, rfl⟩))
    (fun os started H enc _ => lifted os started H enc)

/-- ████ THE STATEMENT ████ -/
theorem proved : Rows.FnOperatorSaid := over
#print axioms proved
end Go.Proofs.Yteecbmhkfnlecaa.fnOperator
