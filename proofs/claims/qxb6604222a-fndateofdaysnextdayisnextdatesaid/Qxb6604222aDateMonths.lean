/-
  The plain arithmetic of the calendar, second part: leap years, months, the next day, counting back. No Go in sight.
-/
import Derived.Test.Qxb6604222aDatePlain
namespace Go.Proofs.Qxb6604222a.Dates
set_option linter.unusedVariables false

def leapB (y : Int) : Bool := y % 4 == 0 && (y % 100 != 0 || y % 400 == 0)
def mlen (y m : Int) : Int := if m = 2 then (if leapB y = true then 29 else 28) else if m = 4 ∨ m = 6 ∨ m = 9 ∨ m = 11 then 30 else 31
/-- the days of a year ahead of its month m, no leap day counted -/
def bm (m : Int) : Int := if m = 2 then 31 else if m = 3 then 59 else if m = 4 then 90 else if m = 5 then 120 else if m = 6 then 151 else if m = 7 then 181 else if m = 8 then 212 else if m = 9 then 243 else if m = 10 then 273 else if m = 11 then 304 else if m = 12 then 334 else 0
def leaps (y : Int) : Int := y / 4 - y / 100 + y / 400
def civ (y m d : Int) : Int := 365 * (y - 1970) + leaps (y - 1) - 477 + bm m + (if 2 < m ∧ leapB y = true then 1 else 0) + (d - 1)

/-- n's date out of its digits: y the year counted from March, k the day of it -/
structure IsDay (n y k : Int) : Prop where
  year : yy n = if mm k ≤ 2 then y + 1 else y
  mon : mo n = mm k
  day : da n = dd k
  lo : 0 ≤ k
  hi : k ≤ 364 ∨ k = 365 ∧ leapB (y + 1) = true
  count : n = 365 * y + leaps y + k - 719468

theorem leap_digits (E i j s : Int) (hi : 0 ≤ i ∧ i ≤ 3) (hj : 0 ≤ j ∧ j ≤ 24) (hs : 0 ≤ s ∧ s ≤ 3) : leapB (400 * E + 100 * i + 4 * j + s + 1) = true ↔ s = 3 ∧ (j ≤ 23 ∨ i = 3) := by
  unfold leapB
  simp only [Bool.and_eq_true, Bool.or_eq_true, beq_iff_eq, bne_iff_ne, ne_eq]
  constructor
  · intro h; omega
  · intro h; omega

theorem leaps_digits (E i j s : Int) (hi : 0 ≤ i ∧ i ≤ 3) (hj : 0 ≤ j ∧ j ≤ 24) (hs : 0 ≤ s ∧ s ≤ 3) : leaps (400 * E + 100 * i + 4 * j + s) = 97 * E + 24 * i + j := by
  unfold leaps; omega

theorem isDay_of (E i j s k n : Int) (hn : n = 146097 * E + 36524 * i + 1461 * j + 365 * s + k - 719468) (hi : 0 ≤ i ∧ i ≤ 3) (hj : 0 ≤ j ∧ j ≤ 24) (hs : 0 ≤ s ∧ s ≤ 3) (hk : 0 ≤ k) (hk2 : k ≤ 364 ∨ k = 365 ∧ s = 3 ∧ (j ≤ 23 ∨ i = 3)) : IsDay n (400 * E + 100 * i + 4 * j + s) k := by
  have he : era n = E := by unfold era; omega
  have hd : doe n = 36524 * i + 1461 * j + 365 * s + k := by unfold doe; rw [he]; omega
  have hy : yoe (doe n) = 100 * i + 4 * j + s := by rw [hd]; exact yoe_of i j s k hi hj hs hk hk2
  have hk3 : doy (doe n) = k := by
    unfold doy; rw [hy, ahead_of i j s hi hj hs, hd]; omega
  refine ⟨?_, ?_, ?_, hk, ?_, ?_⟩
  · unfold yy; rw [hk3, hy, he]; split <;> omega
  · unfold mo; rw [hk3]
  · unfold da; rw [hk3]
  · rcases hk2 with h | ⟨h, h'⟩
    · exact .inl h
    · exact .inr ⟨h, (leap_digits E i j s hi hj hs).mpr h'⟩
  · rw [leaps_digits E i j s hi hj hs]; omega

theorem isDay (n : Int) : ∃ y k, IsDay n y k := by
  obtain ⟨i, j, s, k, h, _, _, a1, a2, a3, a4, a5, a6, a7, a8⟩ := year_of (doe n) (doe_bd n)
  refine ⟨_, _, isDay_of (era n) i j s k n ?_ ⟨a1, a2⟩ ⟨a3, a4⟩ ⟨a5, a6⟩ a7 a8⟩
  unfold doe at h; omega

/-- the day behind a year's last day -/
theorem roll (E i j s k n : Int) (hn : n = 146097 * E + 36524 * i + 1461 * j + 365 * s + k - 719468) (hi : 0 ≤ i ∧ i ≤ 3) (hj : 0 ≤ j ∧ j ≤ 24) (hs : 0 ≤ s ∧ s ≤ 3) (hlast : k = 364 ∧ ¬ (s = 3 ∧ (j ≤ 23 ∨ i = 3)) ∨ k = 365 ∧ s = 3 ∧ (j ≤ 23 ∨ i = 3)) : IsDay (n + 1) (400 * E + 100 * i + 4 * j + s + 1) 0 := by
  by_cases c1 : s ≤ 2
  · have hk : k = 364 := by omega
    clear hlast; subst hk
    have g := isDay_of E i j (s + 1) 0 (n + 1) (by omega) hi hj ⟨by omega, by omega⟩ (by omega) (.inl (by omega))
    rw [show 400 * E + 100 * i + 4 * j + s + 1 = 400 * E + 100 * i + 4 * j + (s + 1) by omega]; exact g
  · have hs3 : s = 3 := by omega
    subst hs3
    by_cases c2 : j ≤ 23
    · have hk : k = 365 := by omega
      clear hlast; subst hk
      have g := isDay_of E i (j + 1) 0 0 (n + 1) (by omega) hi ⟨by omega, by omega⟩ ⟨by omega, by omega⟩ (by omega) (.inl (by omega))
      rw [show 400 * E + 100 * i + 4 * j + 3 + 1 = 400 * E + 100 * i + 4 * (j + 1) + 0 by omega]; exact g
    · have hj4 : j = 24 := by omega
      subst hj4
      by_cases c3 : i ≤ 2
      · have hk : k = 364 := by omega
        clear hlast; subst hk
        have g := isDay_of E (i + 1) 0 0 0 (n + 1) (by omega) ⟨by omega, by omega⟩ ⟨by omega, by omega⟩ ⟨by omega, by omega⟩ (by omega) (.inl (by omega))
        rw [show 400 * E + 100 * i + 4 * 24 + 3 + 1 = 400 * E + 100 * (i + 1) + 4 * 0 + 0 by omega]; exact g
      · have hi3 : i = 3 := by omega
        have hk : k = 365 := by omega
        clear hlast; subst hk hi3
        have g := isDay_of (E + 1) 0 0 0 0 (n + 1) (by omega) ⟨by omega, by omega⟩ ⟨by omega, by omega⟩ ⟨by omega, by omega⟩ (by omega) (.inl (by omega))
        rw [show 400 * E + 100 * 3 + 4 * 24 + 3 + 1 = 400 * (E + 1) + 100 * 0 + 4 * 0 + 0 by omega]; exact g

/-- the next day: of the same year, or the first one of the next -/
theorem isDay_next (n : Int) : ∃ y k, IsDay n y k ∧ (IsDay (n + 1) y (k + 1) ∨ (IsDay (n + 1) (y + 1) 0 ∧ (k = 364 ∧ leapB (y + 1) = false ∨ k = 365 ∧ leapB (y + 1) = true))) := by
  obtain ⟨i, j, s, k, h, _, _, a1, a2, a3, a4, a5, a6, a7, a8⟩ := year_of (doe n) (doe_bd n)
  have hn : n = 146097 * era n + 36524 * i + 1461 * j + 365 * s + k - 719468 := by unfold doe at h; omega
  refine ⟨_, _, isDay_of (era n) i j s k n hn ⟨a1, a2⟩ ⟨a3, a4⟩ ⟨a5, a6⟩ a7 a8, ?_⟩
  have hl := leap_digits (era n) i j s ⟨a1, a2⟩ ⟨a3, a4⟩ ⟨a5, a6⟩
  clear h
  by_cases hle : s = 3 ∧ (j ≤ 23 ∨ i = 3)
  · have hb := hl.mpr hle
    by_cases hk : k = 365
    · exact .inr ⟨roll (era n) i j s k n hn ⟨a1, a2⟩ ⟨a3, a4⟩ ⟨a5, a6⟩ (.inr ⟨hk, hle⟩), .inr ⟨hk, hb⟩⟩
    · have hk2 : k ≤ 364 := by rcases a8 with a | ⟨a, _⟩ <;> omega
      left
      refine isDay_of (era n) i j s (k + 1) (n + 1) (by omega) ⟨a1, a2⟩ ⟨a3, a4⟩ ⟨a5, a6⟩ (by omega) ?_
      by_cases hk3 : k = 364
      · exact .inr ⟨by omega, hle⟩
      · exact .inl (by omega)
  · have hb : leapB (400 * era n + 100 * i + 4 * j + s + 1) = false := by
      cases hx : leapB (400 * era n + 100 * i + 4 * j + s + 1)
      · rfl
      · exact absurd (hl.mp hx) hle
    have hk2 : k ≤ 364 := by
      rcases a8 with a | ⟨_, a⟩
      · exact a
      · exact absurd a hle
    by_cases hk3 : k = 364
    · exact .inr ⟨roll (era n) i j s k n hn ⟨a1, a2⟩ ⟨a3, a4⟩ ⟨a5, a6⟩ (.inl ⟨hk3, hle⟩), .inl ⟨hk3, hb⟩⟩
    · left
      exact isDay_of (era n) i j s (k + 1) (n + 1) (by omega) ⟨a1, a2⟩ ⟨a3, a4⟩ ⟨a5, a6⟩ (by omega) (.inl (by omega))

/-- a month: its first day f and its last day l (of the year counted from March), its number m -/
structure IsMon (k f l m : Int) : Prop where
  first : f ≤ k
  last : k ≤ l
  mon : mm k = m
  day : dd k = k - f + 1

/-- the twelve months, by the day of the year counted from March -/
theorem months (k : Int) (h1 : 0 ≤ k) (h2 : k ≤ 365) :
    IsMon k 0 30 3 ∨ IsMon k 31 60 4 ∨ IsMon k 61 91 5 ∨ IsMon k 92 121 6 ∨ IsMon k 122 152 7 ∨ IsMon k 153 183 8 ∨ IsMon k 184 213 9 ∨ IsMon k 214 244 10 ∨ IsMon k 245 274 11 ∨ IsMon k 275 305 12 ∨ IsMon k 306 336 1 ∨ IsMon k 337 365 2 := by
  have hp : mp k = (5 * k + 2) / 153 := rfl
  have : mp k = 0 ∨ mp k = 1 ∨ mp k = 2 ∨ mp k = 3 ∨ mp k = 4 ∨ mp k = 5 ∨ mp k = 6 ∨ mp k = 7 ∨ mp k = 8 ∨ mp k = 9 ∨ mp k = 10 ∨ mp k = 11 := by omega
  rcases this with h | h | h | h | h | h | h | h | h | h | h | h
  · exact .inl ⟨by omega, by omega, by unfold mm; rw [h]; rfl, by unfold dd; rw [h]; omega⟩
  · exact .inr (.inl ⟨by omega, by omega, by unfold mm; rw [h]; rfl, by unfold dd; rw [h]; omega⟩)
  · exact .inr (.inr (.inl ⟨by omega, by omega, by unfold mm; rw [h]; rfl, by unfold dd; rw [h]; omega⟩))
  · exact .inr (.inr (.inr (.inl ⟨by omega, by omega, by unfold mm; rw [h]; rfl, by unfold dd; rw [h]; omega⟩)))
  · exact .inr (.inr (.inr (.inr (.inl ⟨by omega, by omega, by unfold mm; rw [h]; rfl, by unfold dd; rw [h]; omega⟩))))
  · exact .inr (.inr (.inr (.inr (.inr (.inl ⟨by omega, by omega, by unfold mm; rw [h]; rfl, by unfold dd; rw [h]; omega⟩)))))
  · exact .inr (.inr (.inr (.inr (.inr (.inr (.inl ⟨by omega, by omega, by unfold mm; rw [h]; rfl, by unfold dd; rw [h]; omega⟩))))))
  · exact .inr (.inr (.inr (.inr (.inr (.inr (.inr (.inl ⟨by omega, by omega, by unfold mm; rw [h]; rfl, by unfold dd; rw [h]; omega⟩)))))))
  · exact .inr (.inr (.inr (.inr (.inr (.inr (.inr (.inr (.inl ⟨by omega, by omega, by unfold mm; rw [h]; rfl, by unfold dd; rw [h]; omega⟩))))))))
  · exact .inr (.inr (.inr (.inr (.inr (.inr (.inr (.inr (.inr (.inl ⟨by omega, by omega, by unfold mm; rw [h]; rfl, by unfold dd; rw [h]; omega⟩)))))))))
  · exact .inr (.inr (.inr (.inr (.inr (.inr (.inr (.inr (.inr (.inr (.inl ⟨by omega, by omega, by unfold mm; rw [h]; rfl, by unfold dd; rw [h]; omega⟩))))))))))
  · exact .inr (.inr (.inr (.inr (.inr (.inr (.inr (.inr (.inr (.inr (.inr ⟨by omega, by omega, by unfold mm; rw [h]; rfl, by unfold dd; rw [h]; omega⟩))))))))))

theorem months_at (k f l m : Int) (h : (f = 0 ∧ l = 30 ∧ m = 3) ∨ (f = 31 ∧ l = 60 ∧ m = 4) ∨ (f = 61 ∧ l = 91 ∧ m = 5) ∨ (f = 92 ∧ l = 121 ∧ m = 6) ∨ (f = 122 ∧ l = 152 ∧ m = 7) ∨ (f = 153 ∧ l = 183 ∧ m = 8) ∨ (f = 184 ∧ l = 213 ∧ m = 9) ∨ (f = 214 ∧ l = 244 ∧ m = 10) ∨ (f = 245 ∧ l = 274 ∧ m = 11) ∨ (f = 275 ∧ l = 305 ∧ m = 12) ∨ (f = 306 ∧ l = 336 ∧ m = 1) ∨ (f = 337 ∧ l = 365 ∧ m = 2)) (h1 : f ≤ k) (h2 : k ≤ l) : IsMon k f l m := by
  have hm := months k
  rcases h with ⟨rfl, rfl, rfl⟩ | ⟨rfl, rfl, rfl⟩ | ⟨rfl, rfl, rfl⟩ | ⟨rfl, rfl, rfl⟩ | ⟨rfl, rfl, rfl⟩ | ⟨rfl, rfl, rfl⟩ | ⟨rfl, rfl, rfl⟩ | ⟨rfl, rfl, rfl⟩ | ⟨rfl, rfl, rfl⟩ | ⟨rfl, rfl, rfl⟩ | ⟨rfl, rfl, rfl⟩ | ⟨rfl, rfl, rfl⟩
  · have h : mp k = 0 := by unfold mp; omega
    exact ⟨h1, h2, by unfold mm; rw [h]; rfl, by unfold dd; rw [h]; omega⟩
  · have h : mp k = 1 := by unfold mp; omega
    exact ⟨h1, h2, by unfold mm; rw [h]; rfl, by unfold dd; rw [h]; omega⟩
  · have h : mp k = 2 := by unfold mp; omega
    exact ⟨h1, h2, by unfold mm; rw [h]; rfl, by unfold dd; rw [h]; omega⟩
  · have h : mp k = 3 := by unfold mp; omega
    exact ⟨h1, h2, by unfold mm; rw [h]; rfl, by unfold dd; rw [h]; omega⟩
  · have h : mp k = 4 := by unfold mp; omega
    exact ⟨h1, h2, by unfold mm; rw [h]; rfl, by unfold dd; rw [h]; omega⟩
  · have h : mp k = 5 := by unfold mp; omega
    exact ⟨h1, h2, by unfold mm; rw [h]; rfl, by unfold dd; rw [h]; omega⟩
  · have h : mp k = 6 := by unfold mp; omega
    exact ⟨h1, h2, by unfold mm; rw [h]; rfl, by unfold dd; rw [h]; omega⟩
  · have h : mp k = 7 := by unfold mp; omega
    exact ⟨h1, h2, by unfold mm; rw [h]; rfl, by unfold dd; rw [h]; omega⟩
  · have h : mp k = 8 := by unfold mp; omega
    exact ⟨h1, h2, by unfold mm; rw [h]; rfl, by unfold dd; rw [h]; omega⟩
  · have h : mp k = 9 := by unfold mp; omega
    exact ⟨h1, h2, by unfold mm; rw [h]; rfl, by unfold dd; rw [h]; omega⟩
  · have h : mp k = 10 := by unfold mp; omega
    exact ⟨h1, h2, by unfold mm; rw [h]; rfl, by unfold dd; rw [h]; omega⟩
  · have h : mp k = 11 := by unfold mp; omega
    exact ⟨h1, h2, by unfold mm; rw [h]; rfl, by unfold dd; rw [h]; omega⟩

theorem mo_bd (n : Int) : 1 ≤ mo n ∧ mo n ≤ 12 := by
  unfold mo mm mp; omega

theorem dd_bd (k : Int) (h1 : 0 ≤ k) (h2 : k ≤ 365) : 1 ≤ dd k ∧ dd k ≤ 31 := by
  rcases months k h1 h2 with h | h | h | h | h | h | h | h | h | h | h | h <;> (have := h.first; have := h.last; rw [h.day]; omega)

/-- the date is valid -/
theorem da_bd (n : Int) : 1 ≤ da n ∧ da n ≤ mlen (yy n) (mo n) := by
  obtain ⟨y, k, g⟩ := isDay n
  have hh := g.hi
  have hk : k ≤ 365 := by rcases hh with a | a <;> omega
  refine ⟨by rw [g.day]; exact (dd_bd k g.lo hk).1, ?_⟩
  rw [g.year, g.mon, g.day]
  rcases months k g.lo hk with h | h | h | h | h | h | h | h | h | h | h | h
  · have := h.last; rw [h.mon, h.day]; simp [mlen]; omega
  · have := h.last; rw [h.mon, h.day]; simp [mlen]; omega
  · have := h.last; rw [h.mon, h.day]; simp [mlen]; omega
  · have := h.last; rw [h.mon, h.day]; simp [mlen]; omega
  · have := h.last; rw [h.mon, h.day]; simp [mlen]; omega
  · have := h.last; rw [h.mon, h.day]; simp [mlen]; omega
  · have := h.last; rw [h.mon, h.day]; simp [mlen]; omega
  · have := h.last; rw [h.mon, h.day]; simp [mlen]; omega
  · have := h.last; rw [h.mon, h.day]; simp [mlen]; omega
  · have := h.last; rw [h.mon, h.day]; simp [mlen]; omega
  · have := h.last; rw [h.mon, h.day]; simp [mlen]; omega
  · rw [h.mon, h.day]; simp only [mlen]
    rcases hh with a | ⟨a, b⟩
    · simp; split <;> omega
    · simp [b]; omega

theorem leaps_step (y : Int) : leaps y = leaps (y - 1) + if leapB y = true then 1 else 0 := by
  have : leapB y = true ↔ y % 4 = 0 ∧ (¬ y % 100 = 0 ∨ y % 400 = 0) := by
    unfold leapB
    simp only [Bool.and_eq_true, Bool.or_eq_true, beq_iff_eq, bne_iff_ne, ne_eq]
  by_cases hb : leapB y = true
  · rw [if_pos hb]; have := this.mp hb; unfold leaps; omega
  · rw [if_neg hb]; rw [this] at hb; unfold leaps; omega

/-- and it counts back -/
theorem civ_date (n : Int) : civ (yy n) (mo n) (da n) = n := by
  obtain ⟨y, k, g⟩ := isDay n
  have hk : k ≤ 365 := by rcases g.hi with a | a <;> omega
  have hc := g.count
  have hl := leaps_step y
  rw [g.year, g.mon, g.day]
  rcases months k g.lo hk with h | h | h | h | h | h | h | h | h | h | h | h
  · rw [h.mon, h.day]; simp [civ, bm]; omega
  · rw [h.mon, h.day]; simp [civ, bm]; omega
  · rw [h.mon, h.day]; simp [civ, bm]; omega
  · rw [h.mon, h.day]; simp [civ, bm]; omega
  · rw [h.mon, h.day]; simp [civ, bm]; omega
  · rw [h.mon, h.day]; simp [civ, bm]; omega
  · rw [h.mon, h.day]; simp [civ, bm]; omega
  · rw [h.mon, h.day]; simp [civ, bm]; omega
  · rw [h.mon, h.day]; simp [civ, bm]; omega
  · rw [h.mon, h.day]; simp [civ, bm]; omega
  · rw [h.mon, h.day]; simp [civ, bm]; omega
  · rw [h.mon, h.day]; simp [civ, bm]; omega

/-- what the law on the next day asks -/
theorem next_date (n : Int) : (da n < mlen (yy n) (mo n) ∧ yy (n + 1) = yy n ∧ mo (n + 1) = mo n ∧ da (n + 1) = da n + 1) ∨
    (mlen (yy n) (mo n) ≤ da n ∧ mo n < 12 ∧ yy (n + 1) = yy n ∧ mo (n + 1) = mo n + 1 ∧ da (n + 1) = 1) ∨
    (mlen (yy n) (mo n) ≤ da n ∧ 12 ≤ mo n ∧ yy (n + 1) = yy n + 1 ∧ mo (n + 1) = 1 ∧ da (n + 1) = 1) := by
  obtain ⟨y, k, g, g2⟩ := isDay_next n
  have hk : k ≤ 365 := by rcases g.hi with a | a <;> omega
  rw [g.year, g.mon, g.day]
  rcases g2 with g2 | ⟨g2, hb⟩
  · have hh := g2.hi
    have hk2 : k + 1 ≤ 365 := by rcases hh with a | a <;> omega
    rw [g2.year, g2.mon, g2.day]
    rcases months k g.lo hk with h | h | h | h | h | h | h | h | h | h | h | h
    · have a1 := h.last; have a2 := h.first
      rw [h.mon, h.day]
      by_cases hl : k = 30
      · have h' := months_at (k + 1) 31 60 4 (.inr (.inl ⟨rfl, rfl, rfl⟩)) (by omega) (by omega)
        rw [h'.mon, h'.day]
        right; left
        simp [mlen]; omega
      · have h' := months_at (k + 1) 0 30 3 (.inl ⟨rfl, rfl, rfl⟩) (by omega) (by omega)
        rw [h'.mon, h'.day]
        left
        simp [mlen]; omega
    · have a1 := h.last; have a2 := h.first
      rw [h.mon, h.day]
      by_cases hl : k = 60
      · have h' := months_at (k + 1) 61 91 5 (.inr (.inr (.inl ⟨rfl, rfl, rfl⟩))) (by omega) (by omega)
        rw [h'.mon, h'.day]
        right; left
        simp [mlen]; omega
      · have h' := months_at (k + 1) 31 60 4 (.inr (.inl ⟨rfl, rfl, rfl⟩)) (by omega) (by omega)
        rw [h'.mon, h'.day]
        left
        simp [mlen]; omega
    · have a1 := h.last; have a2 := h.first
      rw [h.mon, h.day]
      by_cases hl : k = 91
      · have h' := months_at (k + 1) 92 121 6 (.inr (.inr (.inr (.inl ⟨rfl, rfl, rfl⟩)))) (by omega) (by omega)
        rw [h'.mon, h'.day]
        right; left
        simp [mlen]; omega
      · have h' := months_at (k + 1) 61 91 5 (.inr (.inr (.inl ⟨rfl, rfl, rfl⟩))) (by omega) (by omega)
        rw [h'.mon, h'.day]
        left
        simp [mlen]; omega
    · have a1 := h.last; have a2 := h.first
      rw [h.mon, h.day]
      by_cases hl : k = 121
      · have h' := months_at (k + 1) 122 152 7 (.inr (.inr (.inr (.inr (.inl ⟨rfl, rfl, rfl⟩))))) (by omega) (by omega)
        rw [h'.mon, h'.day]
        right; left
        simp [mlen]; omega
      · have h' := months_at (k + 1) 92 121 6 (.inr (.inr (.inr (.inl ⟨rfl, rfl, rfl⟩)))) (by omega) (by omega)
        rw [h'.mon, h'.day]
        left
        simp [mlen]; omega
    · have a1 := h.last; have a2 := h.first
      rw [h.mon, h.day]
      by_cases hl : k = 152
      · have h' := months_at (k + 1) 153 183 8 (.inr (.inr (.inr (.inr (.inr (.inl ⟨rfl, rfl, rfl⟩)))))) (by omega) (by omega)
        rw [h'.mon, h'.day]
        right; left
        simp [mlen]; omega
      · have h' := months_at (k + 1) 122 152 7 (.inr (.inr (.inr (.inr (.inl ⟨rfl, rfl, rfl⟩))))) (by omega) (by omega)
        rw [h'.mon, h'.day]
        left
        simp [mlen]; omega
    · have a1 := h.last; have a2 := h.first
      rw [h.mon, h.day]
      by_cases hl : k = 183
      · have h' := months_at (k + 1) 184 213 9 (.inr (.inr (.inr (.inr (.inr (.inr (.inl ⟨rfl, rfl, rfl⟩))))))) (by omega) (by omega)
        rw [h'.mon, h'.day]
        right; left
        simp [mlen]; omega
      · have h' := months_at (k + 1) 153 183 8 (.inr (.inr (.inr (.inr (.inr (.inl ⟨rfl, rfl, rfl⟩)))))) (by omega) (by omega)
        rw [h'.mon, h'.day]
        left
        simp [mlen]; omega
    · have a1 := h.last; have a2 := h.first
      rw [h.mon, h.day]
      by_cases hl : k = 213
      · have h' := months_at (k + 1) 214 244 10 (.inr (.inr (.inr (.inr (.inr (.inr (.inr (.inl ⟨rfl, rfl, rfl⟩)))))))) (by omega) (by omega)
        rw [h'.mon, h'.day]
        right; left
        simp [mlen]; omega
      · have h' := months_at (k + 1) 184 213 9 (.inr (.inr (.inr (.inr (.inr (.inr (.inl ⟨rfl, rfl, rfl⟩))))))) (by omega) (by omega)
        rw [h'.mon, h'.day]
        left
        simp [mlen]; omega
    · have a1 := h.last; have a2 := h.first
      rw [h.mon, h.day]
      by_cases hl : k = 244
      · have h' := months_at (k + 1) 245 274 11 (.inr (.inr (.inr (.inr (.inr (.inr (.inr (.inr (.inl ⟨rfl, rfl, rfl⟩))))))))) (by omega) (by omega)
        rw [h'.mon, h'.day]
        right; left
        simp [mlen]; omega
      · have h' := months_at (k + 1) 214 244 10 (.inr (.inr (.inr (.inr (.inr (.inr (.inr (.inl ⟨rfl, rfl, rfl⟩)))))))) (by omega) (by omega)
        rw [h'.mon, h'.day]
        left
        simp [mlen]; omega
    · have a1 := h.last; have a2 := h.first
      rw [h.mon, h.day]
      by_cases hl : k = 274
      · have h' := months_at (k + 1) 275 305 12 (.inr (.inr (.inr (.inr (.inr (.inr (.inr (.inr (.inr (.inl ⟨rfl, rfl, rfl⟩)))))))))) (by omega) (by omega)
        rw [h'.mon, h'.day]
        right; left
        simp [mlen]; omega
      · have h' := months_at (k + 1) 245 274 11 (.inr (.inr (.inr (.inr (.inr (.inr (.inr (.inr (.inl ⟨rfl, rfl, rfl⟩))))))))) (by omega) (by omega)
        rw [h'.mon, h'.day]
        left
        simp [mlen]; omega
    · have a1 := h.last; have a2 := h.first
      rw [h.mon, h.day]
      by_cases hl : k = 305
      · have h' := months_at (k + 1) 306 336 1 (.inr (.inr (.inr (.inr (.inr (.inr (.inr (.inr (.inr (.inr (.inl ⟨rfl, rfl, rfl⟩))))))))))) (by omega) (by omega)
        rw [h'.mon, h'.day]
        right; right
        simp [mlen]; omega
      · have h' := months_at (k + 1) 275 305 12 (.inr (.inr (.inr (.inr (.inr (.inr (.inr (.inr (.inr (.inl ⟨rfl, rfl, rfl⟩)))))))))) (by omega) (by omega)
        rw [h'.mon, h'.day]
        left
        simp [mlen]; omega
    · have a1 := h.last; have a2 := h.first
      rw [h.mon, h.day]
      by_cases hl : k = 336
      · have h' := months_at (k + 1) 337 365 2 (.inr (.inr (.inr (.inr (.inr (.inr (.inr (.inr (.inr (.inr (.inr ⟨rfl, rfl, rfl⟩))))))))))) (by omega) (by omega)
        rw [h'.mon, h'.day]
        right; left
        simp [mlen]; omega
      · have h' := months_at (k + 1) 306 336 1 (.inr (.inr (.inr (.inr (.inr (.inr (.inr (.inr (.inr (.inr (.inl ⟨rfl, rfl, rfl⟩))))))))))) (by omega) (by omega)
        rw [h'.mon, h'.day]
        left
        simp [mlen]; omega
    · have a2 := h.first
      have h' := months_at (k + 1) 337 365 2 (.inr (.inr (.inr (.inr (.inr (.inr (.inr (.inr (.inr (.inr (.inr ⟨rfl, rfl, rfl⟩))))))))))) (by omega) (by omega)
      rw [h.mon, h.day, h'.mon, h'.day]
      left
      simp only [mlen]
      rcases hh with a | ⟨a, b⟩
      · simp; split <;> omega
      · simp [b]; omega
  · have h' := months_at 0 0 30 3 (.inl ⟨rfl, rfl, rfl⟩) (by omega) (by omega)
    have h := months_at k 337 365 2 (.inr (.inr (.inr (.inr (.inr (.inr (.inr (.inr (.inr (.inr (.inr ⟨rfl, rfl, rfl⟩))))))))))) (by omega) (by omega)
    rw [g2.year, g2.mon, g2.day, h.mon, h.day, h'.mon, h'.day]
    right; left
    simp only [mlen]
    rcases hb with ⟨a, b⟩ | ⟨a, b⟩
    · simp [b]; omega
    · simp [b]; omega

end Go.Proofs.Qxb6604222a.Dates
