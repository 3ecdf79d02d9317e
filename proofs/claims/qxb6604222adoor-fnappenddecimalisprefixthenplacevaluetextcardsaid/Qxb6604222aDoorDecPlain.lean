/-
  The plain arithmetic of writing a number in decimal: no Go in sight.
-/
namespace Go.Proofs.Qxb6604222aDoor.Ints
set_option linter.unusedVariables false

/-- u without its k lowest digits -/
def uAt (u : Int) : Nat → Int
  | 0 => u
  | k + 1 => uAt u k / 10

theorem uAt_succ (u : Int) (k : Nat) : uAt u (k + 1) = uAt u k / 10 := rfl
theorem uAt_nonneg (u : Int) (h : 0 ≤ u) (k : Nat) : 0 ≤ uAt u k := by
  induction k with
  | zero => exact h
  | succ k ih => rw [uAt_succ]; omega
theorem uAt_le (u : Int) (h : 0 ≤ u) (k : Nat) : uAt u k ≤ u := by
  induction k with
  | zero => exact Int.le_refl _
  | succ k ih => have := uAt_nonneg u h k; rw [uAt_succ]; omega
theorem uAt_20 (u : Int) (h : 0 ≤ u) (h2 : u ≤ 18446744073709551615) : uAt u 20 = 0 := by
  simp only [uAt]; omega
theorem uAt_18 (u : Int) (h : 0 ≤ u) (h2 : u < 1000000000000000000) : uAt u 18 = 0 := by
  simp only [uAt]; omega
theorem uAt_zero_le (u : Int) (h : 0 ≤ u) (a b : Nat) (hab : a ≤ b) (h0 : uAt u a = 0) : uAt u b = 0 := by
  induction b with
  | zero => have : a = 0 := by omega
            subst this; exact h0
  | succ b ih =>
    by_cases e : a = b + 1
    · subst e; exact h0
    · have := ih (by omega); rw [uAt_succ, this]; rfl

/-- the byte at place t of u's text of n digits -/
def dg (u : Int) (n t : Nat) : Int := 48 + uAt u (n - 1 - t) % 10
/-- u's text of n digits -/
def decs (u : Int) (n : Nat) : List Int := (List.range n).map (dg u n)

theorem dg_bd (u : Int) (n t : Nat) : 48 ≤ dg u n t ∧ dg u n t ≤ 57 := by unfold dg; omega
theorem decs_length (u : Int) (n : Nat) : (decs u n).length = n := by simp [decs]
theorem decs_getD (u : Int) (n t : Nat) (h : t < n) : (decs u n).getD t 0 = dg u n t := by
  simp [decs, List.getD, List.getElem?_map, List.getElem?_range h]

/-- u is written in n digits: no more, no fewer -/
structure Wide (u : Int) (n : Nat) : Prop where
  lo : 1 ≤ n
  hi : n ≤ 20
  top : uAt u n = 0
  full : n = 1 ∨ uAt u (n - 1) ≠ 0

theorem Wide.le18 {u : Int} {n : Nat} (h : Wide u n) (h0 : 0 ≤ u) (h2 : u < 1000000000000000000) : n ≤ 18 := by
  rcases h.full with e | e
  · omega
  · by_cases hn : n ≤ 18
    · exact hn
    · exact absurd (uAt_zero_le u h0 18 (n - 1) (by omega) (uAt_18 u h0 h2)) e

end Go.Proofs.Qxb6604222aDoor.Ints
