/-
  The plain arithmetic of decimal digits: no Go in sight. 'f i' is the i-th byte of a text.
-/
namespace Go.Proofs.Qxb6604222a.Ints
set_option linter.unusedVariables false

/-- the bytes 0 .. n-1 are digits -/
def AllDig (f : Nat → Int) (n : Nat) : Prop := ∀ i, i < n → 48 ≤ f i ∧ f i ≤ 57

/-- read from the left, v0 ahead -/
def val (f : Nat → Int) (v0 : Int) : Nat → Int
  | 0 => v0
  | k + 1 => val f v0 k * 10 + (f k - 48)

def p10 : Nat → Int
  | 0 => 1
  | k + 1 => p10 k * 10

/-- the k lowest digits of n, weighted -/
def wsum (f : Nat → Int) (n : Nat) : Nat → Int
  | 0 => 0
  | k + 1 => wsum f n k + (f (n - 1 - k) - 48) * p10 k

theorem val_succ (f : Nat → Int) (v0 : Int) (k : Nat) : val f v0 (k + 1) = val f v0 k * 10 + (f k - 48) := rfl
theorem p10_succ (k : Nat) : p10 (k + 1) = p10 k * 10 := rfl
theorem wsum_succ (f : Nat → Int) (n k : Nat) : wsum f n (k + 1) = wsum f n k + (f (n - 1 - k) - 48) * p10 k := rfl

theorem p10_pos (k : Nat) : 1 ≤ p10 k := by
  induction k with
  | zero => exact Int.le_refl _
  | succ k ih => rw [p10_succ]; omega

theorem p10_mono (a b : Nat) (h : a ≤ b) : p10 a ≤ p10 b := by
  induction b with
  | zero => have : a = 0 := by omega
            subst this; exact Int.le_refl _
  | succ b ih =>
    by_cases e : a = b + 1
    · subst e; exact Int.le_refl _
    · have := ih (by omega); have := p10_pos b; rw [p10_succ]; omega

theorem p10_17 : p10 17 = 100000000000000000 := by decide
theorem p10_18 : p10 18 = 1000000000000000000 := by decide

theorem p10_le17 (k : Nat) (h : k ≤ 17) : p10 k ≤ 100000000000000000 := by rw [← p10_17]; exact p10_mono _ _ h
theorem p10_le18 (k : Nat) (h : k ≤ 18) : p10 k ≤ 1000000000000000000 := by rw [← p10_18]; exact p10_mono _ _ h

theorem val_bd (f : Nat → Int) (v0 : Int) (n k : Nat) (hd : AllDig f n) (hk : k ≤ n) (h0 : 0 ≤ v0) (m : Nat) (h1 : v0 + 1 ≤ p10 m) : 0 ≤ val f v0 k ∧ val f v0 k + 1 ≤ p10 (k + m) := by
  induction k with
  | zero => rw [Nat.zero_add]; exact ⟨h0, h1⟩
  | succ k ih =>
    have := ih (by omega)
    have := hd k (by omega)
    rw [val_succ, show k + 1 + m = (k + m) + 1 by omega, p10_succ]
    omega

/-- what is read so far, ahead of the k-th byte: ten times it and a digit fit 18 digits -/
theorem val_room (f : Nat → Int) (v0 : Int) (n k m : Nat) (hd : AllDig f n) (hk : k < n) (h0 : 0 ≤ v0) (h1 : v0 + 1 ≤ p10 m) (hm : n + m ≤ 18) : 0 ≤ val f v0 k ∧ val f v0 k ≤ 99999999999999999 := by
  have h := val_bd f v0 n k hd (by omega) h0 m h1
  have := p10_le17 (k + m) (by omega)
  omega

theorem wsum_bd (f : Nat → Int) (n k : Nat) (hd : AllDig f n) (hk : k ≤ n) : 0 ≤ wsum f n k ∧ wsum f n k + 1 ≤ p10 k := by
  induction k with
  | zero => exact ⟨Int.le_refl _, Int.le_refl _⟩
  | succ k ih =>
    have i1 := ih (by omega)
    have d := hd (n - 1 - k) (by omega)
    have hp := p10_pos k
    rw [wsum_succ, p10_succ]
    have a1 : 0 ≤ (f (n - 1 - k) - 48) * p10 k := Int.mul_nonneg (by omega) (by omega)
    have a2 : (f (n - 1 - k) - 48) * p10 k ≤ 9 * p10 k := Int.mul_le_mul_of_nonneg_right (by omega) (by omega)
    omega

theorem prod_bd (c p : Int) (h1 : 48 ≤ c) (h2 : c ≤ 57) (hp : 1 ≤ p) : 0 ≤ (c - 48) * p ∧ (c - 48) * p ≤ 9 * p :=
  ⟨Int.mul_nonneg (by omega) (by omega), Int.mul_le_mul_of_nonneg_right (by omega) (by omega)⟩

theorem wsum_up (f : Nat → Int) (n k : Nat) (hk : k ≤ n) : wsum f (n + 1) (k + 1) = (f n - 48) + 10 * wsum f n k := by
  induction k with
  | zero => simp [wsum, p10]
  | succ k ih =>
    rw [wsum_succ f (n + 1) (k + 1), ih (by omega), wsum_succ f n k, p10_succ]
    rw [show n + 1 - 1 - (k + 1) = n - 1 - k by omega]
    have : (f (n - 1 - k) - 48) * (p10 k * 10) = 10 * ((f (n - 1 - k) - 48) * p10 k) := by
      rw [← Int.mul_assoc, Int.mul_comm]
    omega

/-- the two readings meet -/
theorem val_wsum (f : Nat → Int) (v0 : Int) (n : Nat) : val f v0 n = v0 * p10 n + wsum f n n := by
  induction n with
  | zero => simp [val, p10, wsum]
  | succ n ih =>
    rw [val_succ, ih, wsum_up f n n (Nat.le_refl _), p10_succ]
    have : v0 * (p10 n * 10) = v0 * p10 n * 10 := by rw [Int.mul_assoc]
    omega

theorem allDig_or (f : Nat → Int) (n : Nat) : AllDig f n ∨ ∃ j, j < n ∧ (f j < 48 ∨ 57 < f j) := by
  induction n with
  | zero => left; intro i hi; omega
  | succ n ih =>
    rcases ih with h | ⟨j, hj, h⟩
    · by_cases hd : 48 ≤ f n ∧ f n ≤ 57
      · left; intro i hi
        by_cases e : i = n
        · subst e; exact hd
        · exact h i (by omega)
      · right; exact ⟨n, by omega, by omega⟩
    · right; exact ⟨j, by omega, h⟩

end Go.Proofs.Qxb6604222a.Ints
