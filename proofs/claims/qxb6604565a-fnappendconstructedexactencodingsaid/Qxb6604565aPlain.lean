/-
  Numbers in base 128 and in base 256: no Go in sight.
-/
namespace Go.Proofs.Qxb6604565a.Ber
set_option linter.unusedVariables false

/-- v without its k lowest digits in base b -/
def qAt (b v : Int) : Nat → Int
  | 0 => v
  | k + 1 => qAt b v k / b
theorem qAt_succ (b v : Int) (k : Nat) : qAt b v (k + 1) = qAt b v k / b := rfl
theorem qAt_nonneg (b v : Int) (hb : 2 ≤ b) (h : 0 ≤ v) (k : Nat) : 0 ≤ qAt b v k := by
  induction k with
  | zero => exact h
  | succ k ih => rw [qAt_succ]; exact Int.ediv_nonneg ih (by omega)
theorem qAt_le (b v : Int) (hb : 2 ≤ b) (h : 0 ≤ v) (k : Nat) : qAt b v k ≤ v := by
  induction k with
  | zero => exact Int.le_refl _
  | succ k ih =>
    rw [qAt_succ]
    have := qAt_nonneg b v hb h k
    exact Int.le_trans (Int.ediv_le_self _ this) ih
theorem qAt_zero_le (b v : Int) (hb : 2 ≤ b) (i j : Nat) (hij : i ≤ j) (h0 : qAt b v i = 0) : qAt b v j = 0 := by
  induction j with
  | zero => have : i = 0 := by omega
            subst this; exact h0
  | succ j ih =>
    by_cases e : i = j + 1
    · subst e; exact h0
    · rw [qAt_succ, ih (by omega)]; exact Int.zero_ediv _

/-- v takes K digits in base b -/
structure Wd (b v : Int) (K : Nat) : Prop where
  lo : 1 ≤ K
  top : qAt b v K = 0
  full : K = 1 ∨ qAt b v (K - 1) ≠ 0

theorem Wd.same {b v : Int} {K K' : Nat} (hb : 2 ≤ b) (h : Wd b v K) (h' : Wd b v K') : K = K' := by
  rcases Nat.lt_trichotomy K K' with c | c | c
  · rcases h'.full with e | e
    · have := h.lo; omega
    · exact absurd (qAt_zero_le b v hb K (K' - 1) (by omega) h.top) e
  · exact c
  · rcases h.full with e | e
    · have := h'.lo; omega
    · exact absurd (qAt_zero_le b v hb K' (K - 1) (by omega) h'.top) e

theorem q128_5 (v : Int) (h : 0 ≤ v) (h2 : v ≤ 4294967295) : qAt 128 v 5 = 0 := by simp only [qAt]; omega
theorem q256_3 (v : Int) (h : 0 ≤ v) (h2 : v ≤ 16777215) : qAt 256 v 3 = 0 := by simp only [qAt]; omega

/-- the groups of seven bits, the highest first, the top bit on all but the last -/
def g128 (v : Int) (i : Nat) : Int := qAt 128 v i % 128 + if i = 0 then 0 else 128
def b128 (v : Int) (K : Nat) : List Int := (List.range K).map (fun t => g128 v (K - 1 - t))
def b256 (v : Int) (K : Nat) : List Int := (List.range K).map (fun t => qAt 256 v (K - 1 - t) % 256)

theorem b128_length (v : Int) (K : Nat) : (b128 v K).length = K := by simp [b128]
theorem b256_length (v : Int) (K : Nat) : (b256 v K).length = K := by simp [b256]
theorem g128_bd (v : Int) (i : Nat) : 0 ≤ g128 v i ∧ g128 v i ≤ 255 := by unfold g128; split <;> omega
theorem b128_take (v : Int) (K t : Nat) (h : t < K) : (b128 v K).take (t + 1) = (b128 v K).take t ++ [g128 v (K - 1 - t)] := by
  rw [List.take_succ_eq_append_getElem (by rw [b128_length]; exact h)]
  simp [b128]
theorem b256_take (v : Int) (K t : Nat) (h : t < K) : (b256 v K).take (t + 1) = (b256 v K).take t ++ [qAt 256 v (K - 1 - t) % 256] := by
  rw [List.take_succ_eq_append_getElem (by rw [b256_length]; exact h)]
  simp [b256]
theorem b128_bytes (v : Int) (K : Nat) : ∀ z ∈ b128 v K, 0 ≤ z ∧ z ≤ 255 := by
  intro z hz
  simp only [b128, List.mem_map] at hz
  obtain ⟨t, _, rfl⟩ := hz
  exact g128_bd _ _
theorem b256_bytes (v : Int) (K : Nat) : ∀ z ∈ b256 v K, 0 ≤ z ∧ z ≤ 255 := by
  intro z hz
  simp only [b256, List.mem_map] at hz
  obtain ⟨t, _, rfl⟩ := hz
  omega

/-- the identifier octets -/
def ident (c num : Int) (K : Nat) : List Int := if num < 31 then [c % 4 * 64 + 32 + num] else [c % 4 * 64 + 32 + 31] ++ b128 num K
/-- the length octets -/
def lens (n : Int) (K : Nat) : List Int := if n < 128 then [n] else [128 + (K : Int)] ++ b256 n K
end Go.Proofs.Qxb6604565a.Ber
