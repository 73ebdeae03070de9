/-
  A text within a string: its bytes escaped, rune by rune or byte by byte. Plain lists. No conditions.
-/
import Derived.Lib.MapLaws
import Derived.Lib.ValidLaws
import Derived.Lib.RuneBytes
import Derived.Lib.TrimUEq
import Derived.Shelf.Unicode.DecodeSlow
namespace Go.Proofs.YteecbmhkfnlecaaGreatDoor
open Go.Lib
set_option linter.unusedVariables false

def eb (b : UInt8) : List UInt8 := if b = 34 ∨ b = 92 then [92, b] else [b]
/-- The text with a backslash ahead of each quote and backslash. -/
def escB (l : List UInt8) : List UInt8 := l.flatMap eb
theorem escB_cons (b : UInt8) (t : List UInt8) : escB (b :: t) = eb b ++ escB t := by simp [escB]
theorem escB_append (l m : List UInt8) : escB (l ++ m) = escB l ++ escB m := by simp [escB]
theorem eb_high (b : UInt8) (h : 128 ≤ b.toNat) : eb b = [b] := by
  have n1 : ∀ c : UInt8, c.toNat < 128 → b ≠ c := fun c hc e => by subst e; omega
  unfold eb
  rw [if_neg (by intro h; rcases h with h | h <;> exact n1 _ (by decide) h)]

theorem escB_len : ∀ l : List UInt8, (escB l).length ≤ 2 * l.length
  | [] => by simp [escB]
  | b :: t => by
    have := escB_len t
    rw [escB_cons, List.length_append, List.length_cons]
    have h : (eb b).length ≤ 2 := by unfold eb; split <;> simp
    omega

theorem one_of : ∀ t : List UInt8, 0 < t.length → ∃ y t', t = y :: t'
  | y :: t', _ => ⟨y, t', rfl⟩
theorem two_of (t : List UInt8) (h : 1 < t.length) : ∃ y z t', t = y :: z :: t' := by
  obtain ⟨y, t1, rfl⟩ := one_of t (by omega)
  obtain ⟨z, t2, rfl⟩ := one_of t1 (by simp at h; omega)
  exact ⟨y, z, t2, rfl⟩
theorem three_of (t : List UInt8) (h : 2 < t.length) : ∃ y z u t', t = y :: z :: u :: t' := by
  obtain ⟨y, z, t1, rfl⟩ := two_of t (by omega)
  obtain ⟨u, t2, rfl⟩ := one_of t1 (by simp at h; omega)
  exact ⟨y, z, u, t2, rfl⟩

/-- A rune of a valid text. -/
theorem esc_step (l : List UInt8) (hne : l ≠ []) (hv : validD l = true) :
    1 ≤ (decodeL l).2 ∧ (decodeL l).2 ≤ l.length ∧ encodeRune ((decodeL l).1 : Int) = l.take (decodeL l).2 ∧ validD (l.drop (decodeL l).2) = true ∧ (decodeL l).1 ≤ 1114111 ∧
      escB (l.take (decodeL l).2) = (if (decodeL l).1 = 34 ∨ (decodeL l).1 = 92 then [92] ++ encodeRune ((decodeL l).1 : Int) else encodeRune ((decodeL l).1 : Int)) := by
  obtain ⟨x, t, rfl⟩ := one_of l (List.length_pos_iff.2 hne)
  rw [validD_step _ hne] at hv
  have he : ¬ ((decodeL (x :: t)).1 = 65533 ∧ (decodeL (x :: t)).2 = 1) := by
    intro h
    rw [if_pos h] at hv
    cases hv
  rw [if_neg he] at hv
  have henc := encode_decode _ hne he
  rw [henc]
  have key : 1 ≤ (decodeL (x :: t)).2 ∧ (decodeL (x :: t)).2 ≤ (x :: t).length ∧ (decodeL (x :: t)).1 ≤ 1114111 ∧ escB ((x :: t).take (decodeL (x :: t)).2) = (if (decodeL (x :: t)).1 = 34 ∨ (decodeL (x :: t)).1 = 92 then [92] ++ (x :: t).take (decodeL (x :: t)).2 else (x :: t).take (decodeL (x :: t)).2) := by
    rw [decodeL_N] at hv he ⊢
    rcases decodeN_shape (x :: t).length ((x :: t).getD 0 0).toNat ((x :: t).getD 1 0).toNat ((x :: t).getD 2 0).toNat ((x :: t).getD 3 0).toNat with ⟨c, e⟩ | ⟨c1, c2, c3, cv, e⟩ | ⟨c1, c2, c3, c4, cv, cs, e⟩ | ⟨c1, c2, c3, c4, c5, cv, cw, e⟩ | e
    · rw [e]
      simp only [List.getD_cons_zero] at c ⊢
      refine ⟨by omega, by simp, by omega, ?_⟩
      have h1 : ∀ c : UInt8, x.toNat = c.toNat ↔ x = c := fun c => ⟨fun h => UInt8.toNat.inj h, fun h => by rw [h]⟩
      have e1 : (x.toNat = 34) ↔ x = 34 := h1 34
      have e2 : (x.toNat = 92) ↔ x = 92 := h1 92
      simp only [List.take_succ_cons, List.take_zero, escB, List.flatMap_cons, List.flatMap_nil, List.append_nil]
      unfold eb
      by_cases h : x = 34 ∨ x = 92
      · rw [if_pos h, if_pos (by rw [e1, e2]; exact h)]; rfl
      · rw [if_neg h, if_neg (by rw [e1, e2]; exact h)]
    · obtain ⟨y, t, rfl⟩ := one_of t (by simp at c2; omega)
      rw [e]
      simp only [List.getD_cons_zero, List.getD_cons_succ] at c1 c3 cv ⊢
      refine ⟨by omega, by simp, by omega, ?_⟩
      rw [if_neg (by omega)]
      simp [escB, eb_high x (by omega), eb_high y (by omega)]
    · obtain ⟨y, z, t, rfl⟩ := two_of t (by simp at c2; omega)
      rw [e]
      simp only [List.getD_cons_zero, List.getD_cons_succ] at c1 c3 c4 cv cs ⊢
      refine ⟨by omega, by simp, by omega, ?_⟩
      rw [if_neg (by omega)]
      simp [escB, eb_high x (by omega), eb_high y (by omega), eb_high z (by omega)]
    · obtain ⟨y, z, u, t, rfl⟩ := three_of t (by simp at c2; omega)
      rw [e]
      simp only [List.getD_cons_zero, List.getD_cons_succ] at c1 c3 c4 c5 cv cw ⊢
      refine ⟨by omega, by simp, by omega, ?_⟩
      rw [if_neg (by omega)]
      simp [escB, eb_high x (by omega), eb_high y (by omega), eb_high z (by omega), eb_high u (by omega)]
    · rw [e] at he; simp at he
  exact ⟨key.1, key.2.1, rfl, hv, key.2.2.1, key.2.2.2⟩
end Go.Proofs.YteecbmhkfnlecaaGreatDoor
