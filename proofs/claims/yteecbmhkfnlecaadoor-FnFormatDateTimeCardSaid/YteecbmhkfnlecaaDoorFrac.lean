/-
  The parts of a second: nine digits without the closing zeros, and the sum that spec.clockOf makes of them. Plain numbers. No conditions.
-/
namespace Go.Proofs.YteecbmhkfnlecaaDoor.frac

/-- So many digits of a number, the highest first. -/
def digs : Nat → Nat → List Nat
  | 0, _ => []
  | k + 1, n => n / 10 ^ k % 10 :: digs k n

/-- The reader's sum over digits, the first of a unit. -/
def fsum : List Nat → Nat → Nat
  | [], _ => 0
  | d :: r, u => d * u + fsum r (u / 10)

theorem digs_length : ∀ (k n : Nat), (digs k n).length = k
  | 0, _ => rfl
  | k + 1, n => by simp [digs, digs_length k n]

theorem digs_lt : ∀ (k n d : Nat), d ∈ digs k n → d < 10
  | 0, _, _, h => by cases h
  | k + 1, n, d, h => by
    rcases List.mem_cons.1 h with rfl | h
    · exact Nat.mod_lt _ (by decide)
    · exact digs_lt k n d h

theorem fsum_digs : ∀ (k n : Nat), fsum (digs (k + 1) n) (10 ^ k) = n % 10 ^ (k + 1)
  | 0, n => by simp [digs, fsum]
  | k + 1, n => by
    have h := fsum_digs k n
    show n / 10 ^ (k + 1) % 10 * 10 ^ (k + 1) + fsum (digs (k + 1) n) (10 ^ (k + 1) / 10) = _
    rw [Nat.pow_succ 10 k, Nat.mul_div_cancel _ (by decide), ← Nat.pow_succ, h, Nat.mod_pow_succ (b := 10) (k := k + 1), Nat.mul_comm, Nat.add_comm]

theorem fsum_zero : ∀ (z u : Nat), fsum (List.replicate z 0) u = 0
  | 0, _ => rfl
  | z + 1, u => by
    show 0 * u + fsum (List.replicate z 0) (u / 10) = 0
    rw [fsum_zero z]; omega

/-- Zeros behind the digits add nothing. -/
theorem fsum_zeros : ∀ (l : List Nat) (z u : Nat), fsum (l ++ List.replicate z 0) u = fsum l u
  | [], z, u => fsum_zero z u
  | d :: l, z, u => by
    show d * u + fsum (l ++ List.replicate z 0) (u / 10) = d * u + fsum l (u / 10)
    rw [fsum_zeros l z]

/-- The first n of the nine digits, where all behind them are zeros. -/
theorem fsum_cut (ns n : Nat) (hns : ns < 1000000000) (hz : (digs 9 ns).drop n = List.replicate (9 - n) 0) : fsum ((digs 9 ns).take n) 100000000 = ns := by
  have h : (digs 9 ns).take n ++ List.replicate (9 - n) 0 = digs 9 ns := by rw [← hz]; exact List.take_append_drop n _
  rw [← fsum_zeros _ (9 - n), h]
  exact (fsum_digs 8 ns).trans (Nat.mod_eq_of_lt hns)
end Go.Proofs.YteecbmhkfnlecaaDoor.frac
