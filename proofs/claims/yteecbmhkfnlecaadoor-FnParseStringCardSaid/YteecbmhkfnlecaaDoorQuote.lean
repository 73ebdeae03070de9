/-
  The plain law of a quoted text: its bytes escaped one by one, and what a decoder of UTF-8 finds in it.
-/
import Derived.Lib.MapLaws
import Derived.Lib.ValidLaws
import Derived.Lib.RuneBytes
import Derived.Shelf.Unicode.DecodeSlow
namespace Go.Proofs.YteecbmhkfnlecaaDoor.fnParseString
open Go.Lib
set_option linter.unusedVariables false

def hexc (d : Nat) : UInt8 := if d < 10 then UInt8.ofNat (48 + d) else UInt8.ofNat (87 + d)
def qb (ev : Bool) (b : UInt8) : List UInt8 :=
  if b = 34 ∨ b = 92 then [92, b] else if b = 10 then [92, 110] else if b = 13 then [92, 114] else if b = 9 then [92, 116]
  else if (b.toNat < 128 ∧ ev = true) ∨ b = 36 then [92, 120, hexc (b.toNat / 16), hexc (b.toNat % 16)] else [b]
def q (ev : Bool) (l : List UInt8) : List UInt8 := l.flatMap (qb ev)

theorem qb_high (ev : Bool) (b : UInt8) (h : 128 ≤ b.toNat) : qb ev b = [b] := by
  have n1 : ∀ c : UInt8, c.toNat < 128 → b ≠ c := fun c hc e => by subst e; omega
  unfold qb
  rw [if_neg (by intro h; rcases h with h | h <;> exact n1 _ (by decide) h), if_neg (n1 10 (by decide)), if_neg (n1 13 (by decide)), if_neg (n1 9 (by decide)), if_neg (by intro h; rcases h with ⟨h, _⟩ | h; omega; exact n1 _ (by decide) h)]

theorem q_cons (ev : Bool) (b : UInt8) (t : List UInt8) : q ev (b :: t) = qb ev b ++ q ev t := by simp [q]

theorem decodeGo_list (s : ByteArray) (S : List UInt8) (h : s.data.toList = S) (h0 : S ≠ []) : decodeGo s = decodeL S := by
  have hs : s = ⟨S.toArray⟩ := ByteArray.ext (Array.toList_inj.1 (by rw [h]))
  have hz : s.size ≠ 0 := by
    intro e
    rw [size_eq, h] at e
    exact h0 (List.length_eq_zero_iff.1 e)
  unfold decodeGo decodeL
  rw [if_neg hz, hs]

theorem one_of : ∀ t : List UInt8, 0 < t.length → ∃ y t', t = y :: t'
  | y :: t', _ => ⟨y, t', rfl⟩
theorem two_of (t : List UInt8) (h : 1 < t.length) : ∃ y z t', t = y :: z :: t' := by
  obtain ⟨y, t1, rfl⟩ := one_of t (by omega)
  obtain ⟨z, t2, rfl⟩ := one_of t1 (by simp at h; omega)
  exact ⟨y, z, t2, rfl⟩
theorem three_of (t : List UInt8) (h : 2 < t.length) : ∃ y z u t', t = y :: z :: u :: t' := by
  obtain ⟨y, z, t1, rfl⟩ := two_of t (by omega)
  obtain ⟨u, t2, rfl⟩ := one_of t1 (by simp at h; omega)
  exact ⟨y, z, u, t2, rfl⟩

/-- At a byte from 128 on a valid text's first rune stands in the quoted text as it stands in the text. -/
theorem lead (ev : Bool) (x : UInt8) (t : List UInt8) (hx : 128 ≤ x.toNat) (hv : validD (x :: t) = true) :
    ∃ (r n : Nat), decodeL (q ev (x :: t)) = (r, n) ∧ 1 < n ∧ n ≤ (x :: t).length ∧ encodeRune (r : Int) = (x :: t).take n ∧ q ev (x :: t) = (x :: t).take n ++ q ev ((x :: t).drop n) ∧ validD ((x :: t).drop n) = true ∧ 128 ≤ r ∧ r ≤ 1114111 := by
  have hne : (x :: t) ≠ [] := by simp
  rw [validD_step _ hne] at hv
  have he : ¬ ((decodeL (x :: t)).1 = 65533 ∧ (decodeL (x :: t)).2 = 1) := by
    intro h
    rw [if_pos h] at hv
    cases hv
  rw [if_neg he] at hv
  have henc := encode_decode _ hne he
  rw [decodeL_N] at hv he henc
  rcases decodeN_shape (x :: t).length ((x :: t).getD 0 0).toNat ((x :: t).getD 1 0).toNat ((x :: t).getD 2 0).toNat ((x :: t).getD 3 0).toNat with ⟨c, e⟩ | ⟨c1, c2, c3, cv, e⟩ | ⟨c1, c2, c3, c4, cv, cs, e⟩ | ⟨c1, c2, c3, c4, c5, cv, cw, e⟩ | e
  · simp at c; omega
  · obtain ⟨y, t, rfl⟩ := one_of t (by simp at c2; omega)
    · skip
      rw [e] at hv henc
      simp only [List.getD_cons_zero, List.getD_cons_succ] at c1 c3 cv e henc
      refine ⟨x.toNat % 32 * 64 + y.toNat % 64, 2, ?_, by omega, by simp, henc, ?_, hv, by omega, by omega⟩
      · rw [q_cons, q_cons, qb_high ev x hx, qb_high ev y (by omega), decodeL_N]
        simp only [List.cons_append, List.nil_append, List.getD_cons_zero, List.getD_cons_succ, List.length_cons]
        unfold decodeN
        rw [if_neg (by omega), if_pos ⟨c1, by omega, c3⟩, if_pos (by omega)]
      · rw [q_cons, q_cons, qb_high ev x hx, qb_high ev y (by omega)]; rfl
  · obtain ⟨y, z, t, rfl⟩ := two_of t (by simp at c2; omega)
    · skip
      rw [e] at hv henc
      simp only [List.getD_cons_zero, List.getD_cons_succ] at c1 c3 c4 cv cs e henc
      refine ⟨x.toNat % 16 * 4096 + y.toNat % 64 * 64 + z.toNat % 64, 3, ?_, by omega, by simp, henc, ?_, hv, by omega, by omega⟩
      · rw [q_cons, q_cons, q_cons, qb_high ev x hx, qb_high ev y (by omega), qb_high ev z (by omega), decodeL_N]
        simp only [List.cons_append, List.nil_append, List.getD_cons_zero, List.getD_cons_succ, List.length_cons]
        unfold decodeN
        rw [if_neg (by omega), if_neg (by omega), if_pos ⟨c1, ⟨by omega, c3⟩, ⟨by omega, c4⟩⟩, if_pos (by omega)]
      · rw [q_cons, q_cons, q_cons, qb_high ev x hx, qb_high ev y (by omega), qb_high ev z (by omega)]; rfl
  · obtain ⟨y, z, u, t, rfl⟩ := three_of t (by simp at c2; omega)
    · skip
      rw [e] at hv henc
      simp only [List.getD_cons_zero, List.getD_cons_succ] at c1 c3 c4 c5 cv cw e henc
      refine ⟨x.toNat % 8 * 262144 + y.toNat % 64 * 4096 + z.toNat % 64 * 64 + u.toNat % 64, 4, ?_, by omega, by simp, henc, ?_, hv, by omega, by omega⟩
      · rw [q_cons, q_cons, q_cons, q_cons, qb_high ev x hx, qb_high ev y (by omega), qb_high ev z (by omega), qb_high ev u (by omega), decodeL_N]
        simp only [List.cons_append, List.nil_append, List.getD_cons_zero, List.getD_cons_succ, List.length_cons]
        unfold decodeN
        rw [if_neg (by omega), if_neg (by omega), if_neg (by omega), if_pos ⟨c1, ⟨by omega, c3⟩, ⟨by omega, c4⟩, ⟨by omega, c5⟩⟩, if_pos (by omega)]
      · rw [q_cons, q_cons, q_cons, q_cons, qb_high ev x hx, qb_high ev y (by omega), qb_high ev z (by omega), qb_high ev u (by omega)]; rfl
  · rw [e] at he; simp at he

theorem ofNat_toNat (c : Nat) (h : c < 256) : (UInt8.ofNat c).toNat = c := by
  rw [UInt8.toNat_ofNat']
  exact Nat.mod_eq_of_lt h

theorem runeCells_ascii (c : Nat) (h : c < 128) : runeCells (c : Int) = byteCells [UInt8.ofNat c] := by
  simp only [runeCells, encodeRuneZ_one (r := (c : Int)) (by omega) (by omega), byteCells, List.map_cons, List.map_nil, ofNat_toNat c (by omega)]

theorem q_len (ev : Bool) : ∀ l : List UInt8, (q ev l).length ≤ 4 * l.length
  | [] => by simp [q]
  | b :: t => by
    have := q_len ev t
    rw [q_cons, List.length_append, List.length_cons]
    have h : (qb ev b).length ≤ 4 := by unfold qb; repeat' split
                                        all_goals simp
    omega
end Go.Proofs.YteecbmhkfnlecaaDoor.fnParseString
