/-
  The calendar: a day count (since March 1 of the year 0), its year, month and day as ast.Time.Format counts them, and the sum over them that spec.daysBefore makes. Plain numbers. No conditions.
-/
namespace Go.Proofs.YteecbmhkfnlecaaDoor.civil
def yoeOf (doe : Nat) : Nat := (doe - doe / 1460 + doe / 36524 - doe / 146096) / 365
def doyOf (doe : Nat) : Nat := doe - (365 * yoeOf doe + yoeOf doe / 4 - yoeOf doe / 100)

def okDay (doe : Nat) : Bool := Nat.ble 146097 doe || (Nat.ble (yoeOf doe) 399 && Nat.ble (365 * yoeOf doe + yoeOf doe / 4 - yoeOf doe / 100) doe && Nat.ble (doyOf doe) 365)
def okDays : Nat → Nat → Nat → Bool
  | 0, lo, _ => okDay lo
  | n + 1, lo, s => okDays n lo (s / 2) && okDays n (lo + s / 2) (s / 2)
theorem okDays_all : okDays 18 0 262144 = true := by decide +kernel
theorem okDays_spec : ∀ (n lo s : Nat), s = 2 ^ n → okDays n lo s = true → ∀ d, lo ≤ d → d < lo + s → okDay d = true
  | 0, lo, s, hs, h, d, h1, h2 => by
    have : d = lo := by subst hs; omega
    rw [this]; exact h
  | n + 1, lo, s, hs, h, d, h1, h2 => by
    have e : s / 2 = 2 ^ n := by rw [hs, Nat.pow_succ]; omega
    have e2 : s = 2 * (s / 2) := by rw [e, hs, Nat.pow_succ]; omega
    simp only [okDays, Bool.and_eq_true] at h
    by_cases hd : d < lo + s / 2
    · exact okDays_spec n lo (s / 2) e h.1 d h1 hd
    · exact okDays_spec n (lo + s / 2) (s / 2) e h.2 d (by omega) (by omega)
theorem yoe_parts (doe : Nat) (h : doe < 146097) : yoeOf doe ≤ 399 ∧ 365 * yoeOf doe + yoeOf doe / 4 - yoeOf doe / 100 ≤ doe ∧ doyOf doe ≤ 365 := by
  have h1 := okDays_spec 18 0 262144 (by decide) okDays_all doe (by omega) (by omega)
  unfold okDay at h1
  have h2 : Nat.ble 146097 doe = false := by
    cases hb : Nat.ble 146097 doe with
    | false => rfl
    | true => have := Nat.le_of_ble_eq_true hb; omega
  rw [h2] at h1
  simp only [Bool.false_or, Bool.and_eq_true] at h1
  exact ⟨Nat.le_of_ble_eq_true h1.1.1, Nat.le_of_ble_eq_true h1.1.2, Nat.le_of_ble_eq_true h1.2⟩

/-- The day of a year of March, from its month and its day. -/
theorem doy_parts (doy : Nat) (h : doy ≤ 365) : (5 * doy + 2) / 153 ≤ 11 ∧ (153 * ((5 * doy + 2) / 153) + 2) / 5 ≤ doy ∧ doy - (153 * ((5 * doy + 2) / 153) + 2) / 5 + 1 ≤ 31 := by
  omega

def mpOf (z : Nat) : Nat := (5 * doyOf (z % 146097) + 2) / 153
/-- The calendar's month, day and year of a day since March 1 of the year 0. -/
def civM (z : Nat) : Nat := if 10 ≤ mpOf z then mpOf z - 9 else mpOf z + 3
def civD (z : Nat) : Nat := doyOf (z % 146097) - (153 * mpOf z + 2) / 5 + 1
def civY (z : Nat) : Nat := z / 146097 * 400 + yoeOf (z % 146097) + if 10 ≤ mpOf z then 1 else 0
/-- The reader's count. -/
def dayNo (y m d : Nat) : Nat :=
  let y' := if m ≤ 2 then y - 1 else y
  let m' := if m ≤ 2 then m + 12 else m
  365 * y' + y' / 4 - y' / 100 + y' / 400 + (153 * (m' - 3) + 2) / 5 + d - 1

theorem civ_range (z : Nat) : 1 ≤ civM z ∧ civM z ≤ 12 ∧ 1 ≤ civD z ∧ civD z ≤ 31 := by
  obtain ⟨h1, h2, h3⟩ := yoe_parts (z % 146097) (Nat.mod_lt _ (by decide))
  have h4 := doy_parts _ h3
  unfold civM civD mpOf
  refine ⟨by split <;> omega, by split <;> omega, by omega, by omega⟩

theorem leap (era y : Nat) (h : y ≤ 399) : 365 * (era * 400 + y) + (era * 400 + y) / 4 - (era * 400 + y) / 100 + (era * 400 + y) / 400 = era * 146097 + (365 * y + y / 4 - y / 100) := by
  omega

theorem civ_back (z : Nat) : dayNo (civY z) (civM z) (civD z) = z := by
  obtain ⟨h1, h2, h3⟩ := yoe_parts (z % 146097) (Nat.mod_lt _ (by decide))
  have h4 := doy_parts _ h3
  have hm : mpOf z ≤ 11 := h4.1
  have hy : (if civM z ≤ 2 then civY z - 1 else civY z) = z / 146097 * 400 + yoeOf (z % 146097) := by
    unfold civM civY
    by_cases h : 10 ≤ mpOf z
    · rw [if_pos h, if_pos h, if_pos (by omega)]; omega
    · rw [if_neg h, if_neg h, if_neg (by omega)]; omega
  have hmm : (if civM z ≤ 2 then civM z + 12 else civM z) - 3 = mpOf z := by
    unfold civM
    by_cases h : 10 ≤ mpOf z
    · rw [if_pos h, if_pos (by omega)]; omega
    · rw [if_neg h, if_neg (by omega)]; omega
  show 365 * (if civM z ≤ 2 then civY z - 1 else civY z) + _ - _ + _ + (153 * ((if civM z ≤ 2 then civM z + 12 else civM z) - 3) + 2) / 5 + civD z - 1 = z
  rw [hy, hmm, leap _ _ h1]
  have hd : (153 * mpOf z + 2) / 5 + civD z - 1 = doyOf (z % 146097) := by
    unfold civD
    have := h4.2.1
    unfold mpOf
    omega
  have hdoy : 365 * yoeOf (z % 146097) + yoeOf (z % 146097) / 4 - yoeOf (z % 146097) / 100 + doyOf (z % 146097) = z % 146097 := by
    unfold doyOf; omega
  have h5 : 1 ≤ civD z := (civ_range z).2.2.1
  have h6 := Nat.div_add_mod z 146097
  omega

theorem civ_year (z : Nat) (h1 : 621500 ≤ z) (h2 : z ≤ 802000) : 1700 ≤ civY z ∧ civY z ≤ 2200 := by
  have hb := civ_back z
  have hr := civ_range z
  have hd : dayNo (civY z) (civM z) (civD z) = 365 * (if civM z ≤ 2 then civY z - 1 else civY z) + (if civM z ≤ 2 then civY z - 1 else civY z) / 4 - (if civM z ≤ 2 then civY z - 1 else civY z) / 100 + (if civM z ≤ 2 then civY z - 1 else civY z) / 400 + (153 * ((if civM z ≤ 2 then civM z + 12 else civM z) - 3) + 2) / 5 + civD z - 1 := rfl
  rw [hb] at hd
  split at hd <;> omega
end Go.Proofs.YteecbmhkfnlecaaDoor.civil
