/-
  Decimal digits as they are written, and a moment's zone. Plain numbers. No conditions.
-/
import Derived.Test.YteecbmhkfnlecaaDoorTm
import Derived.Lib.AppendIntMem
namespace Go.Proofs.YteecbmhkfnlecaaDoor
open Go.RowKit
set_option linter.unusedVariables false
set_option linter.unusedSimpArgs false

theorem dec_digs : ∀ (k n : Nat), 10 ^ k ≤ n → n < 10 ^ (k + 1) → Lib.decDigits n = (frac.digs (k + 1) n).map ch
  | 0, n, h1, h2 => by
    rw [Lib.decDigits_one (by simpa using h2)]
    have : n % 10 = n := Nat.mod_eq_of_lt (by simpa using h2)
    simp [frac.digs, ch, this]
  | k + 1, n, h1, h2 => by
    have h10 : ¬ n < 10 := by
      have : 10 ≤ 10 ^ (k + 1) := by rw [Nat.pow_succ]; have := Nat.one_le_two_pow (n := k); have : 1 ≤ 10 ^ k := Nat.one_le_pow _ _ (by decide); omega
      omega
    rw [Lib.decDigits, dif_neg h10, dec_digs k (n / 10) (by rw [Nat.pow_succ] at h1; omega) (by rw [Nat.pow_succ] at h2; omega)]
    have key : ∀ (j m : Nat), frac.digs (j + 1) m = frac.digs j (m / 10) ++ [m % 10] := by
      intro j
      induction j with
      | zero => intro m; simp [frac.digs]
      | succ j ih =>
        intro m
        rw [frac.digs, ih m, frac.digs]
        have : m / 10 ^ (j + 1) = m / 10 / 10 ^ j := by rw [Nat.pow_succ, Nat.mul_comm, ← Nat.div_div_eq_div_mul]
        rw [this]
        rfl
    rw [key (k + 1) n, List.map_append]
    rfl

theorem dec_d2 (n : Nat) (h : 10 ≤ n) (h2 : n < 100) : Lib.decDigits n = d2 n := by
  rw [dec_digs 1 n h h2]
  simp [frac.digs, d2]
  congr 1
  omega

theorem dec_d1 (n : Nat) (h : n < 10) : 48 :: Lib.decDigits n = d2 n := by
  rw [Lib.decDigits_one h]
  have h1 : n / 10 = 0 := by omega
  have h2 : n % 10 = n := by omega
  simp [d2, h1, h2, ch]

theorem dec_d4 (n : Nat) (h : 1000 ≤ n) (h2 : n < 10000) : Lib.decDigits n = d4 n := by
  rw [dec_digs 3 n h h2]
  simp [frac.digs, d4]
  congr 1
  omega

theorem digs_mod : ∀ (k n m : Nat), frac.digs k (n * 10 ^ k + m) = frac.digs k m
  | 0, _, _ => rfl
  | k + 1, n, m => by
    have h1 : n * 10 ^ (k + 1) + m = (n * 10) * 10 ^ k + m := by rw [Nat.pow_succ, Nat.mul_assoc, Nat.mul_comm (10 ^ k) 10]
    rw [frac.digs, frac.digs, h1, digs_mod k (n * 10) m]
    congr 1
    rw [Nat.add_comm, Nat.add_mul_div_right _ _ (Nat.pos_of_ne_zero (by simp))]
    omega

/-- A second's parts behind a leading one. -/
theorem dec_nano (ns : Nat) (h : ns < 1000000000) : Lib.decDigits (1000000000 + ns) = 49 :: (frac.digs 9 ns).map ch := by
  rw [dec_digs 9 (1000000000 + ns) (by omega) (by omega)]
  rw [frac.digs]
  have h1 : (1000000000 + ns) / 10 ^ 9 % 10 = 1 := by omega
  rw [h1, show 1000000000 + ns = 1 * 10 ^ 9 + ns by omega, digs_mod]
  rfl

/-- A list without its closing zeros. -/
def cutZ (l : List Nat) : List Nat := (l.reverse.dropWhile (· == 0)).reverse

theorem cut_take (l : List Nat) (j d m : Nat) (hd : l[j]? = some d) (h0 : d ≠ 0) (hz : l.drop (j + 1) = List.replicate m 0) : l.take (j + 1) = cutZ l := by
  have h1 : l = l.take (j + 1) ++ List.replicate m 0 := by rw [← hz]; exact (List.take_append_drop _ _).symm
  have h2 : l.take (j + 1) = l.take j ++ [d] := by rw [List.take_add_one, hd]; rfl
  have h3 : l.reverse = List.replicate m 0 ++ (d :: (l.take j).reverse) := by
    conv => lhs; rw [h1, h2]
    simp
  have h4 : ∀ k : Nat, (List.replicate k 0 ++ (d :: (l.take j).reverse)).dropWhile (· == 0) = d :: (l.take j).reverse := by
    intro k
    induction k with
    | zero => simp [List.dropWhile, h0]
    | succ k ih => simpa [List.replicate_succ, List.dropWhile] using ih
  unfold cutZ
  rw [h3, h4 m, h2]
  simp
end Go.Proofs.YteecbmhkfnlecaaDoor
