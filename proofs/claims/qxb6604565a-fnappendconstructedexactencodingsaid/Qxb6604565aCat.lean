/-
  The walks of zzClone, zzCat and zzBytes.
-/
import Derived.Test.Qxb6604565aBase
namespace Go.Proofs.Qxb6604565a.Ber
open Go.ChangeShapes Go.WideShapes Go.ChangeAt Go.RowKit
set_option linter.unusedVariables false

/-- what the clone is: full, and in new memory -/
structure IsClone (w W : World) (v : Value) (n : Nat) (zs : List Int) : Prop where
  full : v = .slice none 0 0 ∧ n = 0 ∨ ∃ g, v = .slice (some ⟨g, 0, none⟩) n n
  own : W.ownsRow 0 5 1 v n (cells zs)
  bel : Below w.heap.size w W

theorem clone_nil (w : World) : Calls Try.prog 6 #[.slice none 0 0] w fun r w' => ∃ v, r = .returned v ∧ IsClone w w' v 0 [] := by
  have q23 : ∀ (w : World) (a : Option Addr) (n c n' c' : Nat), (binOp .eql 23 (.slice a n c) (.slice none n' c')).run Try.prog w = .ok (.bool a.isNone) w := fun w a n c n' c' => Lib.run_eql_slice_nil w _ _ a n c n' c' Try.underlying23
  go_enter Try.func6, Try.ntmps6
  go_wp2
  go_ret
  exact ⟨_, rfl, .inl ⟨rfl, rfl⟩, World.ownsRow_nil _ _ _ _, Below.refl _ _⟩

set_option maxHeartbeats 1000000 in
theorem clone_some (x : Addr) (len cap : Nat) (zs : List Int) (w : World) (hl : len ≤ 1048576) (hz : zs.length = len)
    (hsrc : ∀ i, i < len → ∃ b off, x = ⟨b, off, none⟩ ∧ b < w.heap.size ∧ w.cell? ⟨b, off + i, none⟩ = some (.int .u8 (zs.getD i 0))) :
    Calls Try.prog 6 #[.slice (some x) len cap] w fun r w' => ∃ v, r = .returned v ∧ IsClone w w' v len zs := by
  have q23 : ∀ (w : World) (a : Option Addr) (n c n' c' : Nat), (binOp .eql 23 (.slice a n c) (.slice none n' c')).run Try.prog w = .ok (.bool a.isNone) w := fun w a n c n' c' => Lib.run_eql_slice_nil w _ _ a n c n' c' Try.underlying23
  have hmk := run_make_row' (P := Try.prog) 23 5 (.int .u8 0) 1 Try.underlying23 info5 rfl .i64 .i64 len (by omega) (by omega)
  have HZ := Lib.hid hz
  have HS := Lib.hid hsrc
  clear hz hsrc
  go_enter Try.func6, Try.ntmps6
  go_wp2
  go_loopw [4] (fun i wr => ∃ (k : Nat) (cs : Array Value), k ≤ len ∧ i = .int .i64 k ∧ cs.size = len ∧ (∀ j, j < k → cs[j]? = some (.int .u8 (zs.getD j 0))) ∧ wr = w.alloc (.cells cs 5)) (fun i _ => len - (RowKit.intOf i).toNat)
  case atStart => exact ⟨0, _, Nat.zero_le _, rfl, size_madeCells _ _, fun j hj => absurd hj (Nat.not_lt_zero _), rfl⟩
  case round =>
    obtain ⟨k, cs, hk, rfl, hcs, hpre, rfl⟩ := hrel
    by_cases hlt : k < len
    · obtain ⟨b, off, rfl, hbl, hcell⟩ := HS.out k hlt
      have hcell2 : (w.alloc (.cells cs 5)).cell? ⟨b, off + k, none⟩ = some (.int .u8 (zs.getD k 0)) := by
        rw [((Below.refl w.heap.size w).alloc (Nat.le_refl _) _).cell (p := ⟨b, off + k, none⟩) hbl]; exact hcell
      obtain ⟨v0, hv0⟩ : ∃ v, cs[k]? = some v := ⟨_, Array.getElem?_eq_getElem (by omega)⟩
      have HP : Hid (∀ j, j < k + 1 → (cs.setIfInBounds k (.int .u8 (zs.getD k 0)))[j]? = some (.int .u8 (zs.getD j 0))) := by
        intro j hj
        by_cases e : j = k
        · subst e; rw [Array.getElem?_setIfInBounds_self_of_lt (by omega)]
        · rw [Array.getElem?_setIfInBounds_ne (by omega)]; exact hpre j (by omega)
      have HCS := Lib.hid hcs
      clear hpre hcs hcell
      go_wp2
      go_roundw
      case rel => exact ⟨k + 1, _, by omega, by go_num, by rw [Array.size_setIfInBounds]; exact HCS.out, HP.out, rfl⟩
      case measure => simp [RowKit.intOf]; omega
    · have ek : k = len := by omega
      subst ek
      have HCS := Lib.hid hcs
      have HP := Lib.hid hpre
      clear hcs hpre hlt
      go_wp2
      go_ret
      refine ⟨_, rfl, .inr ⟨_, rfl⟩, ?_, (Below.refl _ _).alloc (Nat.le_refl _) _⟩
      refine ⟨by rw [cells_length, HZ.out, Nat.mul_one], .inr ⟨w.heap.size, k, cs, rfl, Nat.zero_le _, heap_alloc_last w _, Nat.le_refl _, by unfold maxLen; omega, by rw [HCS.out, Nat.mul_one], ?_⟩⟩
      rw [Nat.mul_one]
      apply List.ext_getElem?
      intro i
      by_cases hi : i < k
      · have hi' : i < zs.length := by rw [HZ.out]; exact hi
        rw [List.getElem?_take_of_lt hi]
        have := HP.out i hi
        simp only [Array.getElem?_toList]
        rw [this]
        simp [cells, List.getD, List.getElem?_eq_getElem hi']
      · rw [List.getElem?_eq_none (by simp; omega), List.getElem?_eq_none (by rw [cells_length, HZ.out]; omega)]

theorem zzBytes_yes (a a' : Option Addr) (l c l' c' : Nat) (k n : Int) (w : World) (h : l + l' ≤ 1048576) :
    Calls Try.prog 12 #[.slice a l c, .int .u8 k, .int .u32 n, .slice a' l' c'] w fun r w' => r = .returned (.bool true) ∧ w' = w := by
  go_enter Try.func12, Try.ntmps12
  go_wp2
  go_ret
  exact ⟨rfl, rfl⟩
theorem zzBytes_no (a a' : Option Addr) (l c l' c' : Nat) (k n : Int) (w : World) (hl : l ≤ 9223372036854775807) (hl' : l' ≤ 9223372036854775807) (h : 1048576 < l + l') :
    Calls Try.prog 12 #[.slice a l c, .int .u8 k, .int .u32 n, .slice a' l' c'] w fun r w' => r = .returned (.bool false) ∧ w' = w := by
  by_cases h1 : 1048576 < l
  · go_enter Try.func12, Try.ntmps12
    go_wp2
    go_ret
    exact ⟨rfl, rfl⟩
  · by_cases h2 : 1048576 < l'
    · go_enter Try.func12, Try.ntmps12
      go_wp2
      go_ret
      exact ⟨rfl, rfl⟩
    · go_enter Try.func12, Try.ntmps12
      go_wp2
      go_ret
      exact ⟨rfl, rfl⟩
end Go.Proofs.Qxb6604565a.Ber
