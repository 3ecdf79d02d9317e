/-
  The plain law of the place-value text: no Go in sight.
-/
namespace Go.Proofs.Qxb6604222aDoor.Pv
set_option linter.unusedVariables false
variable {α : Type}

/-- the digit worth 10^k in D * 10^e -/
def dAt (z : α) (D : List α) (e k : Int) : α := if k - e < 0 ∨ (D.length : Int) ≤ k - e then z else D.getD (D.length - 1 - (k - e).toNat) z

/-- the first j steps of the loop, from place hi down -/
def pv (z d : α) (D : List α) (e hi : Int) : Nat → List α
  | 0 => []
  | j + 1 => pv z d D e hi j ++ (if hi - (j : Int) = 0 then [dAt z D e (hi - (j : Int)), d] else [dAt z D e (hi - (j : Int))])

def seg (f : Int → α) (hi : Int) (j : Nat) : List α := (List.range j).map (fun t : Nat => f (hi - (t : Int)))

theorem seg_succ (f : Int → α) (hi : Int) (j : Nat) : seg f hi (j + 1) = seg f hi j ++ [f (hi - (j : Int))] := by
  simp [seg, List.range_succ]
theorem seg_length (f : Int → α) (hi : Int) (j : Nat) : (seg f hi j).length = j := by simp [seg]
theorem seg_get (f : Int → α) (hi : Int) (j i : Nat) (h : i < j) : (seg f hi j)[i]? = some (f (hi - (i : Int))) := by
  simp [seg, List.getElem?_map, List.getElem?_range h]

theorem pv_succ (z d : α) (D : List α) (e hi : Int) (j : Nat) : pv z d D e hi (j + 1) = pv z d D e hi j ++ (if hi - (j : Int) = 0 then [dAt z D e (hi - (j : Int)), d] else [dAt z D e (hi - (j : Int))]) := rfl

theorem pv_above (z d : α) (D : List α) (e : Int) (h j : Nat) (hj : j ≤ h) : pv z d D e h j = seg (dAt z D e) h j := by
  induction j with
  | zero => rfl
  | succ j ih => rw [pv_succ, ih (by omega), seg_succ, if_neg (by omega)]

theorem pv_zero (z d : α) (D : List α) (e : Int) (h : Nat) : pv z d D e h (h + 1) = seg (dAt z D e) h (h + 1) ++ [d] := by
  rw [pv_succ, pv_above z d D e h h (Nat.le_refl _), seg_succ, if_pos (by omega)]
  simp

theorem pv_below (z d : α) (D : List α) (e : Int) (h i : Nat) : pv z d D e h (h + 1 + i) = seg (dAt z D e) h (h + 1) ++ [d] ++ seg (dAt z D e) (-1) i := by
  induction i with
  | zero => rw [Nat.add_zero, pv_zero]; simp [seg]
  | succ i ih =>
    rw [← Nat.add_assoc, pv_succ, ih, seg_succ _ (-1) i, if_neg (by omega)]
    rw [show (h : Int) - ((h + 1 + i : Nat) : Int) = -1 - (i : Int) by omega]
    simp only [List.append_assoc]

theorem dAt_in (z : α) (D : List α) (e k : Int) (t : Nat) (h1 : k - e = (D.length : Int) - 1 - t) (ht : t < D.length) : some (dAt z D e k) = D[t]? := by
  unfold dAt
  rw [if_neg (by omega), show D.length - 1 - (k - e).toNat = t by omega]
  simp [List.getD, ht]
theorem dAt_out (z : α) (D : List α) (e k : Int) (h : k - e < 0 ∨ (D.length : Int) ≤ k - e) : dAt z D e k = z := by
  unfold dAt; rw [if_pos h]

/-- e zeros behind the digits, a point behind all -/
theorem form1 (z d : α) (D : List α) (k : Nat) (hD : 1 ≤ D.length) : pv z d D (k : Int) (((D.length - 1 + k : Nat)) : Int) (D.length - 1 + k + 1) = D ++ List.replicate k z ++ [d] := by
  rw [pv_zero]
  congr 1
  apply List.ext_getElem?
  intro i
  by_cases hi : i < D.length - 1 + k + 1
  · rw [seg_get _ _ _ _ hi]
    by_cases h2 : i < D.length
    · rw [List.getElem?_append_left h2]
      exact dAt_in z D _ _ i (by omega) h2
    · rw [List.getElem?_append_right (by omega), List.getElem?_replicate, if_pos (by omega), dAt_out]
      omega
  · rw [List.getElem?_eq_none (by rw [seg_length]; omega), List.getElem?_eq_none (by simp; omega)]

/-- the point between the digits -/
theorem form2 (z d : α) (D : List α) (k : Nat) (hk : k < D.length) (hk1 : 1 ≤ k) : pv z d D (-(k : Int)) (((D.length - 1 - k : Nat)) : Int) (D.length - 1 - k + 1 + k) = D.take (D.length - k) ++ [d] ++ D.drop (D.length - k) := by
  rw [pv_below]
  congr 1
  · congr 1
    apply List.ext_getElem?
    intro i
    by_cases hi : i < D.length - 1 - k + 1
    · rw [seg_get _ _ _ _ hi, List.getElem?_take_of_lt (by omega)]
      exact dAt_in z D _ _ i (by omega) (by omega)
    · rw [List.getElem?_eq_none (by rw [seg_length]; omega), List.getElem?_eq_none (by simp; omega)]
  · apply List.ext_getElem?
    intro i
    by_cases hi : i < k
    · rw [seg_get _ _ _ _ hi, List.getElem?_drop]
      exact dAt_in z D _ _ _ (by omega) (by omega)
    · rw [List.getElem?_eq_none (by rw [seg_length]; omega), List.getElem?_eq_none (by simp; omega)]

/-- a zero and the point ahead -/
theorem form3 (z d : α) (D : List α) (k : Nat) (hk : D.length ≤ k) (hk1 : 1 ≤ k) : pv z d D (-(k : Int)) (0 : Nat) (0 + 1 + k) = [z, d] ++ List.replicate (k - D.length) z ++ D := by
  rw [pv_below]
  have e1 : seg (dAt z D (-(k : Int))) ((0 : Nat) : Int) (0 + 1) = [z] := by
    simp [seg]
    rw [dAt_out]; omega
  rw [e1]
  rw [show ([z] ++ [d] : List α) = [z, d] by rfl, List.append_assoc]
  congr 1
  apply List.ext_getElem?
  intro i
  by_cases hi : i < k
  · rw [seg_get _ _ _ _ hi]
    by_cases h2 : i < k - D.length
    · rw [List.getElem?_append_left (by simpa using h2), List.getElem?_replicate, if_pos h2, dAt_out]
      omega
    · rw [List.getElem?_append_right (by simp; omega)]
      exact dAt_in z D _ _ _ (by simp; omega) (by simp; omega)
  · rw [List.getElem?_eq_none (by rw [seg_length]; omega), List.getElem?_eq_none (by simp; omega)]

end Go.Proofs.Qxb6604222aDoor.Pv
