/-
  The plain arithmetic of the calendar: no Go in sight.
-/
namespace Go.Proofs.Qxb6604222a.Dates
set_option linter.unusedVariables false

theorem floor_pos (a b : Int) (hb : 2 ≤ b) (h : 0 ≤ a.tmod b) : a.tdiv b = a / b := by
  have h1 := Int.tmod_add_mul_tdiv a b
  have h2 := Int.tmod_lt_of_pos a (show 0 < b by omega)
  exact ((Int.ediv_emod_unique (a := a) (b := b) (r := a.tmod b) (q := a.tdiv b) (by omega)).mpr ⟨h1, h, h2⟩).1.symm

theorem tmod_gt (a b : Int) (hb : 2 ≤ b) : -b < a.tmod b := by
  have h2 := Int.tmod_lt_of_pos (-a) (show 0 < b by omega)
  rw [Int.neg_tmod] at h2
  omega

theorem floor_neg (a b : Int) (hb : 2 ≤ b) (h : a.tmod b < 0) : a.tdiv b - 1 = a / b := by
  have h1 := Int.tmod_add_mul_tdiv a b
  have h2 := tmod_gt a b hb
  have h3 : b * (a.tdiv b - 1) = b * a.tdiv b - b := by rw [Int.mul_sub]; omega
  exact ((Int.ediv_emod_unique (a := a) (b := b) (r := a.tmod b + b) (q := a.tdiv b - 1) (by omega)).mpr ⟨by omega, by omega, by omega⟩).1.symm

theorem div_bd (a b : Int) (hb : 2 ≤ b) (h1 : -9223372036854775808 ≤ a) (h2 : a ≤ 9223372036854775807) : -9223372036854775808 ≤ a / b ∧ a / b ≤ 9223372036854775807 := by
  have e := Int.emod_add_mul_ediv a b
  have h0 := Int.emod_nonneg a (show b ≠ 0 by omega)
  have h3 := Int.emod_lt_of_pos a (show 0 < b by omega)
  constructor
  · rw [Int.le_ediv_iff_mul_le (by omega)]; omega
  · have : a / b < 9223372036854775808 := by rw [Int.ediv_lt_iff_lt_mul (by omega)]; omega
    omega

/-- the year of an era (of 146097 days), counted from March, of its day e -/
def yoe (e : Int) : Int := (e - e / 1460 + e / 36524 - e / 146096) / 365
/-- the days of an era ahead of its year y -/
def ahead (y : Int) : Int := 365 * y + y / 4 - y / 100
/-- the day of that year -/
def doy (e : Int) : Int := e - ahead (yoe e)
/-- the month, 0 for March, of a day of the year -/
def mp (k : Int) : Int := (5 * k + 2) / 153
def dd (k : Int) : Int := k - (153 * mp k + 2) / 5 + 1
def mm (k : Int) : Int := (mp k + 2) % 12 + 1
def era (n : Int) : Int := (n + 719468) / 146097
def doe (n : Int) : Int := n + 719468 - era n * 146097
def yy (n : Int) : Int := if mm (doy (doe n)) ≤ 2 then yoe (doe n) + era n * 400 + 1 else yoe (doe n) + era n * 400
def mo (n : Int) : Int := mm (doy (doe n))
def da (n : Int) : Int := dd (doy (doe n))

theorem doe_bd (n : Int) : 0 ≤ doe n ∧ doe n ≤ 146096 := by unfold doe era; omega
theorem yoe_bd (e : Int) (h : 0 ≤ e ∧ e ≤ 146096) : 0 ≤ yoe e ∧ yoe e ≤ 399 := by unfold yoe; omega
/-- the four digits of a day of the era: its century i, its four years j, its year s, its day k -/
theorem digits_of (e : Int) (h : 0 ≤ e ∧ e ≤ 146096) : ∃ i j s k : Int, e = 36524 * i + 1461 * j + 365 * s + k ∧ 0 ≤ i ∧ i ≤ 3 ∧ 0 ≤ j ∧ j ≤ 24 ∧ 0 ≤ s ∧ s ≤ 3 ∧ 0 ≤ k ∧ (k ≤ 364 ∨ k = 365 ∧ s = 3 ∧ (j ≤ 23 ∨ i = 3)) := by
  by_cases h1 : e = 146096
  · exact ⟨3, 24, 3, 365, by omega, by omega, by omega, by omega, by omega, by omega, by omega, by omega, by omega⟩
  · by_cases h2 : (e % 36524) % 1461 = 1460
    · exact ⟨e / 36524, (e % 36524) / 1461, 3, 365, by omega, by omega, by omega, by omega, by omega, by omega, by omega, by omega, by omega⟩
    · exact ⟨e / 36524, (e % 36524) / 1461, (e % 36524) % 1461 / 365, (e % 36524) % 1461 % 365, by omega, by omega, by omega, by omega, by omega, by omega, by omega, by omega, by omega⟩

theorem yoe_of (i j s k : Int) (hi : 0 ≤ i ∧ i ≤ 3) (hj : 0 ≤ j ∧ j ≤ 24) (hs : 0 ≤ s ∧ s ≤ 3) (hk : 0 ≤ k) (hk2 : k ≤ 364 ∨ k = 365 ∧ s = 3 ∧ (j ≤ 23 ∨ i = 3)) : yoe (36524 * i + 1461 * j + 365 * s + k) = 100 * i + 4 * j + s := by
  have e1 : (36524 * i + 1461 * j + 365 * s + k) / 1460 = 25 * i + j + (24 * i + j + 365 * s + k) / 1460 := by omega
  have e2 : (36524 * i + 1461 * j + 365 * s + k) / 36524 - (36524 * i + 1461 * j + 365 * s + k) / 146096 = i := by
    by_cases hx : i = 3 ∧ j = 24 ∧ s = 3 ∧ k = 365
    · obtain ⟨rfl, rfl, rfl, rfl⟩ := hx; rfl
    · have hlt : 1461 * j + 365 * s + k ≤ 36523 := by omega
      omega
  unfold yoe
  rw [e1]
  omega

theorem ahead_of (i j s : Int) (hi : 0 ≤ i ∧ i ≤ 3) (hj : 0 ≤ j ∧ j ≤ 24) (hs : 0 ≤ s ∧ s ≤ 3) : ahead (100 * i + 4 * j + s) = 36524 * i + 1461 * j + 365 * s := by
  unfold ahead; omega

/-- the year and the day of the year out of the digits -/
theorem year_of (e : Int) (h : 0 ≤ e ∧ e ≤ 146096) : ∃ i j s k : Int, e = 36524 * i + 1461 * j + 365 * s + k ∧ yoe e = 100 * i + 4 * j + s ∧ doy e = k ∧ 0 ≤ i ∧ i ≤ 3 ∧ 0 ≤ j ∧ j ≤ 24 ∧ 0 ≤ s ∧ s ≤ 3 ∧ 0 ≤ k ∧ (k ≤ 364 ∨ k = 365 ∧ s = 3 ∧ (j ≤ 23 ∨ i = 3)) := by
  obtain ⟨i, j, s, k, rfl, a1, a2, a3, a4, a5, a6, a7, a8⟩ := digits_of e h
  have y := yoe_of i j s k ⟨a1, a2⟩ ⟨a3, a4⟩ ⟨a5, a6⟩ a7 a8
  refine ⟨i, j, s, k, rfl, y, ?_, a1, a2, a3, a4, a5, a6, a7, a8⟩
  unfold doy; rw [y, ahead_of i j s ⟨a1, a2⟩ ⟨a3, a4⟩ ⟨a5, a6⟩]; omega

theorem doy_bd (e : Int) (h : 0 ≤ e ∧ e ≤ 146096) : 0 ≤ doy e ∧ doy e ≤ 365 := by
  obtain ⟨i, j, s, k, _, _, hd, _⟩ := year_of e h
  omega

/-! ### 400 years on -/
theorem era_400 (n : Int) : era (n + 146097) = era n + 1 := by unfold era; omega
theorem doe_400 (n : Int) : doe (n + 146097) = doe n := by unfold doe; rw [era_400]; omega
theorem mo_400 (n : Int) : mo (n + 146097) = mo n := by unfold mo; rw [doe_400]
theorem da_400 (n : Int) : da (n + 146097) = da n := by unfold da; rw [doe_400]
theorem yy_400 (n : Int) : yy (n + 146097) = yy n + 400 := by
  unfold yy; rw [doe_400, era_400]; split <;> omega
theorem yy_bd (n : Int) (h1 : -9223372036854775808 ≤ n) (h2 : n ≤ 9223372036854775807) : -40000000000000000 ≤ yy n ∧ yy n ≤ 40000000000000000 := by
  have hy := yoe_bd (doe n) (doe_bd n)
  have he : -70000000000000 ≤ era n ∧ era n ≤ 70000000000000 := by unfold era; omega
  unfold yy; split <;> omega

end Go.Proofs.Qxb6604222a.Dates
