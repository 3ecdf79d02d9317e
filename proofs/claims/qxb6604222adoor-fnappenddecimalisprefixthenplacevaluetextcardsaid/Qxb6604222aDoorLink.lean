/-
  The two writings of a number's digits are one: the library's (decDigits) and the law's own (decs).
-/
import Derived.Test.Qxb6604222aDoorEq
import Derived.Test.Qxb6604222aDoorPvPlain
namespace Go.Proofs.Qxb6604222aDoor.Bufs
open Go.RowKit Go.Sort Go.Lib Ints
set_option linter.unusedVariables false

theorem uAt_shift (u : Int) (k : Nat) : uAt u (k + 1) = uAt (u / 10) k := by
  induction k with
  | zero => rfl
  | succ k ih => rw [uAt_succ, ih, uAt_succ]

theorem decCells_succ (u : Int) (n : Nat) (hn : 1 ≤ n) : decCells u (n + 1) = decCells (u / 10) n ++ [.int .u8 (48 + u % 10)] := by
  unfold decCells decs
  rw [List.range_succ, List.map_append, List.map_append]
  congr 1
  · rw [List.map_map, List.map_map]
    apply List.map_congr_left
    intro t ht
    have : t < n := by simpa using ht
    show Value.int .u8 (Ints.dg u (n + 1) t) = Value.int .u8 (Ints.dg (u / 10) n t)
    unfold Ints.dg
    rw [show n + 1 - 1 - t = (n - 1 - t) + 1 by omega, uAt_shift]
  · simp [Ints.dg, uAt]

theorem digs_link (n : Nat) : ∀ u : Nat, Wide (u : Int) n → digs u = decCells (u : Int) n ∧ nDigits u = n := by
  induction n with
  | zero => intro u h; have := h.lo; omega
  | succ n ih =>
    intro u h
    by_cases hn : n = 0
    · subst hn
      have h10 : u < 10 := by have := h.top; simp [uAt] at this; omega
      have hd : decDigits u = [UInt8.ofNat (48 + u)] := by rw [decDigits, dif_pos h10]
      refine ⟨?_, nDigits_small h10⟩
      have e1 : (UInt8.ofNat (48 + u)).toNat = 48 + u := by simp; omega
      have e2 : (u : Int) % 10 = u := by omega
      rw [digs, hd]
      simp [byteCells, decCells, decs, Ints.dg, uAt, e2]
      omega
    · have hfull : uAt (u : Int) n ≠ 0 := by
        rcases h.full with e | e
        · omega
        · simpa using e
      have hge : ¬ u < 10 := by
        intro hlt
        have h1 : uAt (u : Int) 1 = 0 := by simp [uAt]; omega
        exact hfull (uAt_zero_le u (by omega) 1 n (by omega) h1)
      have hw : Wide ((u / 10 : Nat) : Int) n := by
        have e : ((u / 10 : Nat) : Int) = (u : Int) / 10 := by omega
        rw [e]
        refine ⟨by omega, by have := h.hi; omega, ?_, ?_⟩
        · rw [← uAt_shift]; exact h.top
        · by_cases h1 : n = 1
          · left; exact h1
          · right
            rw [show uAt ((u : Int) / 10) (n - 1) = uAt (u : Int) n by rw [← uAt_shift, show n - 1 + 1 = n by omega]]
            exact hfull
      obtain ⟨i1, i2⟩ := ih (u / 10) hw
      refine ⟨?_, by rw [nDigits_big hge, i2]⟩
      have hd : decDigits u = decDigits (u / 10) ++ [UInt8.ofNat (48 + u % 10)] := by rw [decDigits, dif_neg hge]
      rw [digs, hd, byteCells_append, decCells_succ _ _ (by omega)]
      have e : ((u / 10 : Nat) : Int) = (u : Int) / 10 := by omega
      rw [← e, ← i1]
      congr 1
      simp [byteCells]
      omega

theorem itoa_pos (x : Int) (n : Nat) (hx : 0 ≤ x) (h : Wide x n) : byteCells (itoa x) = decCells x n := by
  obtain ⟨u, rfl⟩ : ∃ u : Nat, x = (u : Int) := ⟨x.toNat, by omega⟩
  unfold itoa
  rw [if_neg (by omega), Int.toNat_natCast]
  exact (digs_link n u h).1
theorem itoa_neg (x : Int) (n : Nat) (hx : x < 0) (h : Wide (-x) n) : byteCells (itoa x) = [.int .u8 45] ++ decCells (-x) n := by
  obtain ⟨u, hu⟩ : ∃ u : Nat, -x = (u : Int) := ⟨(-x).toNat, by omega⟩
  unfold itoa
  rw [if_pos hx, hu, show x.natAbs = u by omega]
  rw [hu] at h
  rw [← (digs_link n u h).1]
  rfl
end Go.Proofs.Qxb6604222aDoor.Bufs
