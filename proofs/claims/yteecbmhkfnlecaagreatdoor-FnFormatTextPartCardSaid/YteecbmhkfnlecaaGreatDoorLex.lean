/-
  The lexer's small parts at this seat's numbers: letter, digit; keyword and Name (that they answer).
-/
import Derived.Test.YteecbmhkfnlecaaGreatDoorSmall
import Derived.Test.YteecbmhkfnlecaaGreatDoorShelf
import Derived.WalkKit
import Derived.Lib.Hide
import Derived.Deep.LoopGhost
namespace Go.Proofs.YteecbmhkfnlecaaGreatDoor
open Go.RowKit
set_option linter.unusedVariables false

/-- The tables of the library's decoder hold on while nothing old is written. -/
theorem tabs_below {w w' : World} (hT : Lib.Utf8Tabs 0 1 w) (hb : Below w.heap.size w w') : Lib.Utf8Tabs 0 1 w' := by
  have l0 : 0 < w.heap.size := by
    have := hT.1 0 (by omega)
    exact block_lt_of_cell this
  have l1 : 1 < w.heap.size := by
    have := (hT.2 0 (by omega)).1
    exact block_lt_of_cell this
  refine ⟨fun c hc => ?_, fun i hi => ⟨?_, ?_⟩⟩
  · rw [hb.cell (p := ⟨0, c, none⟩) l0]; exact hT.1 c hc
  · rw [hb.cell (p := ⟨1, 2 * i, none⟩) l1]; exact (hT.2 i hi).1
  · rw [hb.cell (p := ⟨1, 2 * i + 1, none⟩) l1]; exact (hT.2 i hi).2

/-- A letter, as the language has them. -/
def isL (r : Nat) : Bool := r == 95 || (decide (97 ≤ r) && decide (r ≤ 122)) || (decide (65 ≤ r) && decide (r ≤ 90)) || (decide (128 ≤ r) && !(r == 65533))

theorem isL_iff (r : Nat) : isL r = true ↔ (r = 95 ∨ (97 ≤ r ∧ r ≤ 122) ∨ (65 ≤ r ∧ r ≤ 90) ∨ (128 ≤ r ∧ r ≠ 65533)) := by
  simp [isL, or_assoc]

/-- How long a letter is that stands at a place. -/
def letterN (s : ByteArray) (i : Nat) : Nat := if i < s.size then (if isL (Lib.decodeGo (s.extract i s.size)).1 then (Lib.decodeGo (s.extract i s.size)).2 else 0) else 0

theorem letter_any (s : ByteArray) (b o i : Nat) (w : World) (hs : s.size ≤ 2147483647) (hT : Lib.Utf8Tabs 0 1 w) (hc : w.cell? ⟨b, o, none⟩ = some (.string s)) (hi : i ≤ s.size) :
    Calls Tryz.prog 68 #[.pointer (some ⟨b, o, none⟩), .int .i64 i] w fun e w' => e = .returned (.int .i64 (letterN s i)) ∧ Below w.heap.size w w' := by
  by_cases h : i < s.size
  · have H := Lib.hid hT
    clear hT
    have hd : letterN s i = if isL (Lib.decodeGo (s.extract i s.size)).1 then (Lib.decodeGo (s.extract i s.size)).2 else 0 := by simp [letterN, h]
    have HD := Lib.hid hd
    clear hd
    go_enter Tryz.func68, Tryz.ntmps68
    go_wp2_with fail
    refine (Tryz.utf8_DecodeRuneInString _ _ H.out).mono ?_
    rintro e w1 ⟨rfl, hb1⟩
    generalize (Lib.decodeGo (s.extract i s.size)).1 = r at *
    generalize (Lib.decodeGo (s.extract i s.size)).2 = n at *
    clear H hc
    go_wp2_with fail
    all_goals
      (try simp only [beq_iff_eq, bne_iff_ne, ne_eq, beq_eq_false_iff_ne, bne_eq_false_iff_eq] at *)
      go_ret
      refine ⟨?_, hb1⟩
      rw [HD.out]
      first
        | (have e : isL r = true := by (rw [isL_iff]; omega)
           rw [if_pos e]; rfl)
        | (have e : ¬ isL r = true := by (rw [isL_iff]; omega)
           rw [if_neg e]; rfl)
        | (exfalso; omega)
  · go_enter Tryz.func68, Tryz.ntmps68
    go_wp2_with fail
    go_ret
    exact ⟨by simp [letterN, h], Below.refl _ _⟩

/-- A digit stands at a place. -/
def digitB (s : ByteArray) (i : Nat) : Bool := if h : i < s.size then decide (48 ≤ (s[i]'h).toNat) && decide ((s[i]'h).toNat ≤ 57) else false

theorem digit_any (s : ByteArray) (b o i : Nat) (w : World) (hs : s.size ≤ 2147483647) (hc : w.cell? ⟨b, o, none⟩ = some (.string s)) (hi : i ≤ 2147483647) :
    Calls Tryz.prog 69 #[.pointer (some ⟨b, o, none⟩), .int .i64 i] w fun e w' => e = .returned (.bool (digitB s i)) ∧ w = w' := by
  by_cases h : i < s.size
  · have hd : digitB s i = (decide (48 ≤ (s[i]'h).toNat) && decide ((s[i]'h).toNat ≤ 57)) := by simp [digitB, h]
    have HD := Lib.hid hd
    clear hd
    go_enter Tryz.func69, Tryz.ntmps69
    go_wp2_with fail
    all_goals
      go_ret
      refine ⟨?_, rfl⟩
      rw [HD.out]
      first
        | (have e : 48 ≤ (s[i]'h).toNat := by omega
           have e2 : ((((s[i]'h).toNat : Int) ≤ 57) = ((s[i]'h).toNat ≤ 57)) := by apply propext; omega
           simp [e, e2])
        | (have e : ¬ 48 ≤ (s[i]'h).toNat := by omega
           simp [e])
  · have hd : digitB s i = false := by simp [digitB, h]
    have HD := Lib.hid hd
    clear hd
    go_enter Tryz.func69, Tryz.ntmps69
    go_wp2_with fail
    go_ret
    exact ⟨by rw [HD.out]; rfl, rfl⟩

theorem keyword_some (s : ByteArray) (w : World) : Calls Tryz.prog 70 #[.string s] w fun e w' => ∃ b : Bool, e = .returned (.bool b) ∧ w = w' := by
  go_enter Tryz.func70, Tryz.ntmps70
  go_wp2_with fail
  all_goals
    go_ret
    exact ⟨_, rfl, rfl⟩

theorem decodeGo_le (s : ByteArray) : (Lib.decodeGo s).2 ≤ s.size := by
  unfold Lib.decodeGo
  split
  · simp
  · rename_i h
    unfold Utf8.decode
    simp only [Bool.and_eq_true, decide_eq_true_eq, Nat.zero_add]
    repeat' split
    all_goals (simp only []; omega)

theorem letterN_le (s : ByteArray) (i : Nat) (hi : i ≤ s.size) : i + letterN s i ≤ s.size := by
  unfold letterN
  split
  · split
    · have := decodeGo_le (s.extract i s.size)
      have e : (s.extract i s.size).size = s.size - i := by simp
      omega
    · omega
  · omega

/-- What Name's loop keeps. -/
def NameRel (s : ByteArray) (w : World) (k : Nat) (wr : World) : Prop :=
  ∃ i : Nat, i ≤ s.size ∧ k = s.size - i ∧ wr.cell? ⟨w.heap.size, 0, none⟩ = some (.string s) ∧ wr.cell? ⟨w.heap.size, 1, none⟩ = some (.int .i64 i) ∧ wr.frozen? ⟨w.heap.size, 1, none⟩ = false ∧ w.heap.size < wr.heap.size ∧ Below w.heap.size w wr

theorem rel_step {s : ByteArray} {w wr w1 : World} {i n : Nat} (hn : 1 ≤ n) (hi : i + n ≤ s.size) (c0 : wr.cell? ⟨w.heap.size, 0, none⟩ = some (.string s)) (c1 : wr.cell? ⟨w.heap.size, 1, none⟩ = some (.int .i64 i))
    (f1 : wr.frozen? ⟨w.heap.size, 1, none⟩ = false) (hz : w.heap.size < wr.heap.size) (hb : Below w.heap.size w wr) (hb1 : Below wr.heap.size wr w1) :
    NameRel s w (s.size - (i + n)) (w1.setCell ⟨w.heap.size, 1, none⟩ (.int .i64 ((i : Int) + n))) := by
  obtain ⟨k0, f0⟩ := bblk hb1 (b := w.heap.size) hz
  have hz1 := hb1.size
  refine ⟨i + n, hi, rfl, by simp [go_sem, k0, c0], by simp [go_sem, k0, c1], by simp [go_sem, f0, f1], by simp [go_sem]; omega, (hb.trans (hb1.mono (by omega))).setCell (by simp) _⟩

set_option maxHeartbeats 800000 in
theorem name_some (s : ByteArray) (w : World) (hs : s.size ≤ 2147483647) (hT : Lib.Utf8Tabs 0 1 w) :
    Calls Tryz.prog 48 #[.string s] w fun e w' => ∃ b : Bool, e = .returned (.bool b) ∧ Below w.heap.size w w' := by
  have HT := Lib.hid hT
  clear hT
  go_enter Tryz.func48, Tryz.ntmps48
  go_wp2_with fail
  go_loopg [] s.size (fun k wr => NameRel s w k wr)
  case atStart =>
    exact ⟨0, Nat.zero_le _, rfl, by simp [go_sem], by simp [go_sem], by simp [go_sem], by simp, (Below.refl _ _).alloc (Nat.le_refl _) _⟩
  case round =>
    obtain ⟨i, hi, hk, c0, c1, f1, hz, hb⟩ := hrel
    have HK := Lib.hid hk
    clear hk
    by_cases hlt : i < s.size
    · have hle := letterN_le s i hi
      go_wp2_with fail
      refine (letter_any s _ _ i _ hs (tabs_below HT.out hb) c0 hi).mono ?_
      rintro e w1 ⟨rfl, hb1⟩
      generalize letterN s i = n at *
      obtain ⟨k0, f0⟩ := bblk hb1 (b := w.heap.size) hz
      have hz1 := hb1.size
      by_cases hn : n = 0
      · subst hn
        by_cases hi0 : i = 0
        · subst hi0
          go_wp2_with fail
          go_ret
          exact ⟨_, rfl, hb.trans (hb1.mono (by omega))⟩
        · have hi1 : ((i : Int) == 0) = false := by simp; omega
          have D1 : w1.cell? ⟨w.heap.size, 0, none⟩ = some (.string s) := by rw [k0]; exact c0
          cases hd : digitB s i
          · go_wp2_with fail
            refine (digit_any s _ _ i _ hs D1 (by omega)).mono ?_
            rintro e w2 ⟨rfl, rfl⟩
            go_wp2_with fail
            go_ret
            exact ⟨_, rfl, hb.trans (hb1.mono (by omega))⟩
          · go_wp2_with fail
            refine (digit_any s _ _ i _ hs D1 (by omega)).mono ?_
            rintro e w2 ⟨rfl, rfl⟩
            go_wp2_with fail
            go_roundg (s.size - (i + 1))
            case measure => rw [HK.out]; omega
            case rel => exact rel_step (n := 1) (by omega) (by omega) c0 c1 f1 hz hb hb1
      · have hn1 : ((n : Int) == 0) = false := by simp; omega
        have hm : max (n : Int) 1 = (n : Int) := by omega
        go_wp2_with fail
        go_roundg (s.size - (i + n))
        case measure => rw [HK.out]; omega
        case rel => exact rel_step (n := n) (by omega) (by omega) c0 c1 f1 hz hb hb1
    · go_wp2_with (go_at_call 70; refine (keyword_some _ _).mono ?_; rintro e w2 ⟨kb, rfl, rfl⟩)
      all_goals
        go_ret
        exact ⟨_, rfl, hb⟩
end Go.Proofs.YteecbmhkfnlecaaGreatDoor
