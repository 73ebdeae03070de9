/-
  PlainLiterals at this seat's numbers: it answers. No conditions.
-/
import Derived.Test.YtongafghllkomaaGreatDoorGood
namespace Go.Proofs.YtongafghllkomaaGreatDoor
open Go.RowKit
set_option linter.unusedVariables false

/-- Some Bool, and nothing else. -/
def SomeW (w : World) (e : Ending) (w' : World) : Prop := ∃ b : Bool, e = .returned (.bool b) ∧ w' = w

set_option maxRecDepth 100000 in
theorem plainPattern_any (s : ByteArray) (w : World) (hs : s.size ≤ 9223372036854775807) :
    Calls Tryz.prog 129 #[.string s] w (SomeW w) := by
  go_enter Tryz.func129, Tryz.ntmps129
  go_wp2_with fail
  go_loopg [3] s.size (fun gk i wr => wr = w ∧ ∃ (j : Nat), j ≤ s.size ∧ gk = s.size - j ∧ i = .int .i64 (j : Int))
  case atStart => exact ⟨rfl, 0, by omega, by omega, rfl⟩
  case round =>
    obtain ⟨rfl, j, hj, rfl, rfl⟩ := hrel
    by_cases hjn : j < s.size
    · have hjz : (j : Int) < (s.size : Int) := by omega
      go_wp2_with fail

      all_goals first
        | (go_roundg (s.size - (j + 1))
           case measure => omega
           case rel => exact ⟨rfl, j + 1, by omega, rfl, by push_cast; rfl⟩)
        | (go_ret
           exact ⟨_, rfl, rfl⟩)
    · have hjz : ¬ (j : Int) < (s.size : Int) := by omega
      go_wp2_with fail
      go_ret
      exact ⟨_, rfl, rfl⟩

set_option maxRecDepth 100000 in
theorem literal_41 (t m : ByteArray) (u : Int) (sl : Value) (w : World) :
    Calls Tryz.prog 88 #[.agg #[.int .i64 41, .string t, .string m, .int .u64 u, sl]] w (SomeB True w) := by
  go_enter Tryz.func88, Tryz.ntmps88
  go_wp2_with fail
  all_goals
    go_ret
    exact ⟨_, rfl, (fun _ => trivial), (Below.refl _ _).alloc (Nat.le_refl _) _⟩

set_option maxRecDepth 100000 in
theorem literal_42 (t m : ByteArray) (u : Int) (sl : Value) (w : World) (ht : t.size ≤ 9223372036854775807) :
    Calls Tryz.prog 88 #[.agg #[.int .i64 42, .string t, .string m, .int .u64 u, sl]] w (SomeB True w) := by
  go_enter Tryz.func88, Tryz.ntmps88
  go_wp2_with fail
  refine (plainPattern_any t _ ht).mono ?_
  rintro e w1 ⟨b, rfl, rfl⟩
  go_wp2_with fail
  go_ret
  exact ⟨_, rfl, (fun _ => trivial), (Below.refl _ _).alloc (Nat.le_refl _) _⟩

def LitsC (D : Nat) : Prop := ∀ (n : Nd) (w : World), LiesD D w n → Calls Tryz.prog 33 #[n.val] w (SomeB True w)

set_option maxRecDepth 100000 in
theorem lits_all : ∀ D, LitsC D := by
  intro D
  induction D with
  | zero => intro n w hL; exact hL.elim
  | succ D ih =>
    intro n w hL
    obtain ⟨k, t, m, u, no, ncap, kids⟩ := n
    have hM := hL.len_le
    have hT : t.size ≤ 9223372036854775807 := by have := hL.1.1; unfold maxLen at this; exact this
    obtain ⟨len, hlen⟩ : ∃ len, kids.length = len := ⟨_, rfl⟩
    show Calls _ _ #[.agg #[.int .i64 k, .string t, .string m, .int .u64 u, .slice no kids.length ncap]] w _
    rw [hlen] at hM ⊢
    have HN := Lib.hid hlen
    have HL := Lib.hid hL
    clear hlen hL
    by_cases h41 : k = 41
    · subst h41
      go_enter Tryz.func33, Tryz.ntmps33
      go_wp2_with fail
      refine (literal_41 t m u _ _).mono ?_
      rintro e w1 ⟨b1, rfl, -, hb1⟩
      have H0 := Lib.hid (((Below.refl w.heap.size w).alloc (Nat.le_refl _) (.cells #[.int .i64 41, .string t, .string m, .int .u64 u, .slice no len ncap] 25)).trans (hb1.mono (by simp)))
      obtain ⟨k0, -⟩ := bblk hb1 (b := w.heap.size) (by simp)
      clear hb1
      cases b1
      · go_wp2_with fail
        go_ret
        exact ⟨_, rfl, (fun _ => trivial), H0.out⟩
      go_wp2_with fail
      go_loopg [21] len (fun gk i wr => ∃ (j : Nat), j ≤ len ∧ gk = len - j ∧ i = .int .i64 (j : Int) ∧ Hid (Below w.heap.size w wr))
      case atStart => exact ⟨0, by omega, by omega, rfl, H0⟩
      case round =>
        obtain ⟨j, hj, rfl, rfl, hB⟩ := hrel
        by_cases hjn : j < len
        · have hjz : (j : Int) < (len : Int) := by omega
          obtain ⟨x, hx⟩ : ∃ x, kids[j]? = some x := ⟨kids[j]'(by have := HN.out; omega), List.getElem?_eq_getElem _⟩
          obtain ⟨b, o, hao, c0, c1, c2, c3, c4, hLx⟩ := kid_cells HL.out hx hB.out
          obtain rfl : no = some ⟨b, o, none⟩ := hao
          have HLX := Lib.hid hLx
          have hBs := hB.out.size
          clear hx hLx
          go_wp2_with fail
          refine (ih x _ (HLX.out.below ((Below.refl _ _).alloc (Nat.le_refl _) _))).mono ?_
          rintro e w4 ⟨bf, rfl, h4, hb4⟩
          have HB4 := Lib.hid ((hB.out.alloc hBs _).trans (hb4.mono (by simp; omega)))
          clear h4 hb4
          cases bf
          · go_wp2_with fail
            go_ret
            exact ⟨_, rfl, (fun _ => trivial), HB4.out⟩
          · go_wp2_with fail
            go_roundg (len - (j + 1))
            case measure => omega
            case rel => exact ⟨j + 1, by omega, rfl, by push_cast; rfl, HB4⟩
        · have hjz : ¬ (j : Int) < (len : Int) := by omega
          obtain rfl : j = len := by omega
          go_wp2_with fail
          go_ret
          exact ⟨_, rfl, (fun _ => trivial), hB.out⟩
    by_cases h42 : k = 42
    · subst h42
      go_enter Tryz.func33, Tryz.ntmps33
      go_wp2_with fail
      refine (literal_42 t m u _ _ hT).mono ?_
      rintro e w1 ⟨b1, rfl, -, hb1⟩
      have H0 := Lib.hid (((Below.refl w.heap.size w).alloc (Nat.le_refl _) (.cells #[.int .i64 42, .string t, .string m, .int .u64 u, .slice no len ncap] 25)).trans (hb1.mono (by simp)))
      obtain ⟨k0, -⟩ := bblk hb1 (b := w.heap.size) (by simp)
      clear hb1
      cases b1
      · go_wp2_with fail
        go_ret
        exact ⟨_, rfl, (fun _ => trivial), H0.out⟩
      go_wp2_with fail
      go_loopg [21] len (fun gk i wr => ∃ (j : Nat), j ≤ len ∧ gk = len - j ∧ i = .int .i64 (j : Int) ∧ Hid (Below w.heap.size w wr))
      case atStart => exact ⟨0, by omega, by omega, rfl, H0⟩
      case round =>
        obtain ⟨j, hj, rfl, rfl, hB⟩ := hrel
        by_cases hjn : j < len
        · have hjz : (j : Int) < (len : Int) := by omega
          obtain ⟨x, hx⟩ : ∃ x, kids[j]? = some x := ⟨kids[j]'(by have := HN.out; omega), List.getElem?_eq_getElem _⟩
          obtain ⟨b, o, hao, c0, c1, c2, c3, c4, hLx⟩ := kid_cells HL.out hx hB.out
          obtain rfl : no = some ⟨b, o, none⟩ := hao
          have HLX := Lib.hid hLx
          have hBs := hB.out.size
          clear hx hLx
          go_wp2_with fail
          refine (ih x _ (HLX.out.below ((Below.refl _ _).alloc (Nat.le_refl _) _))).mono ?_
          rintro e w4 ⟨bf, rfl, h4, hb4⟩
          have HB4 := Lib.hid ((hB.out.alloc hBs _).trans (hb4.mono (by simp; omega)))
          clear h4 hb4
          cases bf
          · go_wp2_with fail
            go_ret
            exact ⟨_, rfl, (fun _ => trivial), HB4.out⟩
          · go_wp2_with fail
            go_roundg (len - (j + 1))
            case measure => omega
            case rel => exact ⟨j + 1, by omega, rfl, by push_cast; rfl, HB4⟩
        · have hjz : ¬ (j : Int) < (len : Int) := by omega
          obtain rfl : j = len := by omega
          go_wp2_with fail
          go_ret
          exact ⟨_, rfl, (fun _ => trivial), hB.out⟩
    have g1 : (k == 41) = false := by simpa using h41
    have g2 : (k == 42) = false := by simpa using h42
    go_enter Tryz.func33, Tryz.ntmps33
    go_wp2_with fail
    have H0 := Lib.hid ((Below.refl w.heap.size w).alloc (Nat.le_refl _) (.cells #[.int .i64 k, .string t, .string m, .int .u64 u, .slice no len ncap] 25))
    go_loopg [21] len (fun gk i wr => ∃ (j : Nat), j ≤ len ∧ gk = len - j ∧ i = .int .i64 (j : Int) ∧ Hid (Below w.heap.size w wr))
    case atStart => exact ⟨0, by omega, by omega, rfl, H0⟩
    case round =>
      obtain ⟨j, hj, rfl, rfl, hB⟩ := hrel
      by_cases hjn : j < len
      · have hjz : (j : Int) < (len : Int) := by omega
        obtain ⟨x, hx⟩ : ∃ x, kids[j]? = some x := ⟨kids[j]'(by have := HN.out; omega), List.getElem?_eq_getElem _⟩
        obtain ⟨b, o, hao, c0, c1, c2, c3, c4, hLx⟩ := kid_cells HL.out hx hB.out
        obtain rfl : no = some ⟨b, o, none⟩ := hao
        have HLX := Lib.hid hLx
        have hBs := hB.out.size
        clear hx hLx
        go_wp2_with fail
        refine (ih x _ (HLX.out.below ((Below.refl _ _).alloc (Nat.le_refl _) _))).mono ?_
        rintro e w4 ⟨bf, rfl, h4, hb4⟩
        have HB4 := Lib.hid ((hB.out.alloc hBs _).trans (hb4.mono (by simp; omega)))
        clear h4 hb4
        cases bf
        · go_wp2_with fail
          go_ret
          exact ⟨_, rfl, (fun _ => trivial), HB4.out⟩
        · go_wp2_with fail
          go_roundg (len - (j + 1))
          case measure => omega
          case rel => exact ⟨j + 1, by omega, rfl, by push_cast; rfl, HB4⟩
      · have hjz : ¬ (j : Int) < (len : Int) := by omega
        obtain rfl : j = len := by omega
        go_wp2_with fail
        go_ret
        exact ⟨_, rfl, (fun _ => trivial), hB.out⟩
end Go.Proofs.YtongafghllkomaaGreatDoor
