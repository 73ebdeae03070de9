/-
  Holds and PlainLiterals at this seat's numbers: what they say where they answer no, or yes. No conditions.
-/
import Derived.Test.YtongafghllkomaaGreatDoorGood
namespace Go.Proofs.YtongafghllkomaaGreatDoor
open Go.RowKit
set_option linter.unusedVariables false

/-- A Bool of which it is known what its no says. -/
def SomeNo (P : Prop) (w : World) (e : Ending) (w' : World) : Prop := ∃ b : Bool, e = .returned (.bool b) ∧ (b = false → P) ∧ Below w.heap.size w w'

def HoldsC (D : Nat) : Prop := ∀ (n : Nd) (z : Int) (ao : Option Addr) (cap : Nat) (w : World), LiesD D w n → IntsIn ao [z] w →
    Calls Tryz.prog 32 #[n.val, .slice ao 1 cap] w (SomeNo (NoneD D n z) w)

set_option maxRecDepth 100000 in
theorem holds_all : ∀ D, HoldsC D := by
  intro D
  induction D with
  | zero => intro n z ao cap w hL _; exact hL.elim
  | succ D ih =>
    intro n z ao cap w hL hI
    obtain ⟨k, t, m, u, no, ncap, kids⟩ := n
    have hM := hL.len_le
    obtain ⟨len, hlen⟩ : ∃ len, kids.length = len := ⟨_, rfl⟩
    show Calls _ _ #[.agg #[.int .i64 k, .string t, .string m, .int .u64 u, .slice no kids.length ncap], _] w _
    rw [hlen] at hM ⊢
    have HN := Lib.hid hlen
    have HL := Lib.hid hL
    have HI := Lib.hid hI
    clear hlen hL hI
    go_enter Tryz.func32, Tryz.ntmps32
    go_wp2_with fail
    refine (in_any k ao [z] 1 cap _ rfl (by omega) (HI.out.below ((Below.refl _ _).alloc (Nat.le_refl _) _))).mono ?_
    rintro e w1 ⟨rfl, rfl⟩
    cases hin : inB k [z]
    · have HIN := Lib.hid hin
      clear hin
      go_wp2_with fail
      have H0 := Lib.hid ((Below.refl w.heap.size w).alloc (Nat.le_refl _) (.cells #[.int .i64 k, .string t, .string m, .int .u64 u, .slice no len ncap] 25))
      go_loopg [14] len (fun gk i wr => ∃ (j : Nat), j ≤ len ∧ gk = len - j ∧ i = .int .i64 (j : Int) ∧ Hid (∀ (i : Nat) (x : Nd), i < j → kids[i]? = some x → NoneD D x z) ∧ Hid (Below w.heap.size w wr))
      case atStart => exact ⟨0, by omega, by omega, rfl, Lib.hid (fun i x h => absurd h (by omega)), H0⟩
      case round =>
        obtain ⟨j, hj, rfl, rfl, hD, hB⟩ := hrel
        by_cases hjn : j < len
        · have hjz : (j : Int) < (len : Int) := by omega
          obtain ⟨x, hx⟩ : ∃ x, kids[j]? = some x := ⟨kids[j]'(by have := HN.out; omega), List.getElem?_eq_getElem _⟩
          obtain ⟨b, o, hao, c0, c1, c2, c3, c4, hLx⟩ := kid_cells HL.out hx hB.out
          obtain rfl : no = some ⟨b, o, none⟩ := hao
          have HX := Lib.hid hx
          have HLX := Lib.hid hLx
          have hBs := hB.out.size
          clear hx hLx
          go_wp2_with fail
          refine (ih x z ao cap _ (HLX.out.below ((Below.refl _ _).alloc (Nat.le_refl _) _)) ((HI.out.below hB.out).below ((Below.refl _ _).alloc (Nat.le_refl _) _))).mono ?_
          rintro e w4 ⟨bf, rfl, h4, hb4⟩
          have HB4 := Lib.hid ((hB.out.alloc hBs _).trans (hb4.mono (by simp; omega)))
          have H4 := Lib.hid h4
          clear h4 hb4
          cases bf
          · go_wp2_with fail
            go_roundg (len - (j + 1))
            case measure => omega
            case rel =>
              refine ⟨j + 1, by omega, rfl, by push_cast; rfl, Lib.hid (fun i y hi hy => ?_), HB4⟩
              by_cases e : i = j
              · subst e
                rw [HX.out] at hy
                cases hy
                exact H4.out (by first | rfl | trivial)
              · exact hD.out i y (by omega) hy
          · go_wp2_with fail
            go_ret
            exact ⟨_, rfl, (by intro h; cases h), HB4.out⟩
        · have hjz : ¬ (j : Int) < (len : Int) := by omega
          obtain rfl : j = len := by omega
          go_wp2_with fail
          go_ret
          refine ⟨_, rfl, (fun _ => ⟨?_, fun i x hx => hD.out i x (by have := HN.out; have := (List.getElem?_eq_some_iff.1 hx).1; simp only [Nd.kids] at this; omega) hx⟩), hB.out⟩
          have := HIN.out
          simp only [Nd.kind]
          intro e
          subst e
          simp [inB] at this
    · clear hin
      go_wp2_with fail
      go_ret
      exact ⟨_, rfl, (by intro h; cases h), (Below.refl _ _).alloc (Nat.le_refl _) _⟩
end Go.Proofs.YtongafghllkomaaGreatDoor
