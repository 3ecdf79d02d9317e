/-
  The walk of zzLen.
-/
import Derived.Test.Qxb6604565aIdent
namespace Go.Proofs.Qxb6604565a.Ber
open Go.ChangeShapes Go.WideShapes Go.ChangeAt Go.RowKit
set_option linter.unusedVariables false

set_option maxRecDepth 100000 in
theorem len_small (n : Nat) (w : World) (hs : n < 128) (K : Nat) :
    Calls Try.prog 10 #[.int .i64 (n : Int)] w fun r w' => ∃ v, r = .returned v ∧ w'.ownsRow w.heap.size 5 1 v (lens n K).length (cells (lens n K)) ∧ Below w.heap.size w w' := by
  have HI : Hid (lens n K = [(n : Int)]) := by show _ = _; unfold lens; rw [if_pos (by omega)]
  go_enter Try.func10, Try.ntmps10
  go_wp2
  go_ret
  refine ⟨_, rfl, ?_, (Below.refl _ _).alloc (Nat.le_refl _) _⟩
  rw [HI.out]
  exact owns_lit w _

set_option maxRecDepth 100000 in
set_option maxHeartbeats 4000000 in
theorem len_big (n : Nat) (w : World) (hs : 128 ≤ n) (hn : n ≤ 1048576) :
    Calls Try.prog 10 #[.int .i64 (n : Int)] w fun r w' => ∃ v K, r = .returned v ∧ Wd 256 n K ∧ w'.ownsRow w.heap.size 5 1 v (lens n K).length (cells (lens n K)) ∧ Below w.heap.size w w' := by
  obtain ⟨i0, hi, hz0, hz1, hz2⟩ := info_parts info5
  go_enter Try.func10, Try.ntmps10
  go_wp2
  go_loopw [4, 5] (fun kk x wr => ∃ (k : Nat) (cs : Array Value), k ≤ 3 ∧ GrpAt 256 n 8 k cs ∧ (k = 0 ∨ qAt 256 n (k - 1) ≠ 0) ∧ kk = .int .i64 (k : Int) ∧ x = .int .i64 (qAt 256 n k) ∧ wr = w.alloc (.cells cs 43)) (fun kk _ _ => (10 - RowKit.intOf kk).toNat)
  case atStart => exact ⟨0, _, by omega, ⟨rfl, fun j hj => by omega⟩, .inl rfl, rfl, rfl, rfl⟩
  case round =>
    obtain ⟨k, cs, hk, hbuf, hful, rfl, rfl, rfl⟩ := hrel
    have z1 := qAt_nonneg 256 n (by omega) (by omega) k
    have z2 : qAt 256 n k ≤ 1048576 := Int.le_trans (qAt_le 256 n (by omega) (by omega) k) (by omega)
    by_cases hz : 0 < qAt 256 n k
    · have hk3 : k ≤ 2 := by
        by_cases e : k = 3
        · subst e
          have := q256_3 n (by omega) (by omega)
          omega
        · omega
      obtain ⟨v0, hv0⟩ : ∃ v, cs[k]? = some v := ⟨_, Array.getElem?_eq_getElem (by have := hbuf.1; omega)⟩
      have HB := Lib.hid (hbuf.step (by omega))
      have HU := Lib.hid (qAt_succ 256 n k)
      clear hbuf hful
      go_wp2
      go_roundw
      case rel => exact ⟨k + 1, _, by omega, HB.out, .inr (by rw [Nat.add_sub_cancel]; omega), by go_num, by rw [HU.out], rfl⟩
      case measure => simp [RowKit.intOf]; omega
    · have hk0 : 1 ≤ k := by
        by_cases e : k = 0
        · subst e; exfalso; apply hz; show (0 : Int) < (n : Int); omega
        · omega
      have HW : Hid (Wd 256 n k) := by
        refine ⟨hk0, by omega, ?_⟩
        rcases hful with e | e
        · omega
        · right; exact e
      have HB := Lib.hid hbuf
      clear hbuf hful
      go_wp2_with (at_make; go_must (refine wpList_make_own _ rfl _ _ 23 rfl (w.heap.size + 1) 5 i0 (.int .u8 0) 1 Try.underlying23 hi hz0 hz1 .i64 .i64 _ (k + 1) rfl rfl (by omega) (by rw [hz2]; omega) (by unfold maxLen; omega) (by simp) ?_; intro w1 hown1 hgrow1; refine Hid.out ?_))
      have hsz : (w.alloc (.cells cs 43)).heap.size = w.heap.size + 1 := by simp
      have S0 : Og (w.alloc (.cells cs 43)) w1 (.slice (some ⟨w.heap.size + 1, 0, none⟩) 0 (k + 1)) 0 [] :=
        ⟨by rw [hsz]; rw [hsz] at hown1; exact hown1, (Below.refl _ _).grown hgrow1 (Nat.le_refl _) (fun q hq => by cases hq)⟩
      have hgrp : ∀ j, j < k → (w.alloc (.cells cs 43)).cell? ⟨w.heap.size, j, none⟩ = some (.int .u8 (qAt 256 n j % 256)) := by
        intro j hj
        rw [World.cell?_alloc_new]; exact HB.out.2 j hj
      have hbw : Below w.heap.size w (w.alloc (.cells cs 43)) := (Below.refl _ _).alloc (Nat.le_refl _) _
      clear hown1 hgrow1
      generalize w.alloc (.cells cs 43) = Wg at S0 hgrp hbw hsz
      have HG := Lib.hid hgrp
      have HSZ := Lib.hid hsz
      clear hgrp hsz
      refine Lib.hid ?_
      go_wp2_with (at_builtin; go_must (refine wpList_append_own _ rfl (.tmp 28) (.tmp 32) 23 rfl Wg.heap.size 5 i0 (.int .u8 0) 1 1 Try.underlying23 hi hz0 hz1 hz2 rfl (by decide) _ _ _ rfl (S0.own.alloc _) ⟨w1.heap.size, 0, none⟩ 1 1 [.int .u8 (128 + (k : Int))] rfl rfl (one_cells w1 _ _) (by intro x hx; simp at hx; subst hx; rfl) (by unfold maxLen; omega) (by omega) (by have := S0.bel.size; simp; omega) ?_; intro v2 w2 hown2 hgrow2 _; refine Hid.out ?_))
      have S1 := S0.next (zs' := [128 + (k : Int)]) ((Below.refl _ _).alloc (Nat.le_refl _) _) hown2 rfl hgrow2
      clear hown2 hgrow2 S0
      refine Lib.hid ?_
      go_wp2_with fail
      go_loopw [6, 7] (fun v i wr => ∃ t : Nat, t ≤ k ∧ i = .int .i64 ((k : Int) - 1 - (t : Int)) ∧ Og Wg wr v (1 + t) ([128 + (k : Int)] ++ (b256 n k).take t)) (fun _ i _ => (RowKit.intOf i + 1).toNat)
      case atStart => exact ⟨0, by omega, by go_num, S1.cast rfl (by simp)⟩
      case round =>
        obtain ⟨t, ht, rfl, S⟩ := hrel
        by_cases hlt : t < k
        · have hcell : wr.cell? ⟨w.heap.size, k - 1 - t, none⟩ = some (.int .u8 (qAt 256 n (k - 1 - t) % 256)) := by
            rw [S.bel.cell (p := ⟨w.heap.size, k - 1 - t, none⟩) (by show w.heap.size < _; rw [HSZ.out]; omega)]
            exact HG.out _ (by omega)
          have HT := Lib.hid (b256_take n k t hlt)
          have q1 := qAt_nonneg 256 n (by omega) (by omega) (k - 1 - t)
          go_wp2_with (at_builtin; go_must (refine wpList_append_own _ rfl (.tmp 40) (.tmp 44) 23 rfl Wg.heap.size 5 i0 (.int .u8 0) 1 1 Try.underlying23 hi hz0 hz1 hz2 rfl (by decide) _ _ _ rfl (S.own.alloc _) ⟨wr.heap.size, 0, none⟩ 1 1 [.int .u8 (qAt 256 n (k - 1 - t) % 256)] rfl rfl (one_cells wr _ _) (by intro x hx; simp at hx; subst hx; rfl) (by unfold maxLen; omega) (by omega) (by have := S.bel.size; simp; omega) ?_; intro v3 w3 hown3 hgrow3 _; refine Hid.out ?_))
          have S2 := S.next (zs' := [128 + (k : Int)] ++ (b256 n k).take (t + 1)) ((Below.refl _ _).alloc (Nat.le_refl _) _) hown3 ((cells_snoc _ _).trans (by rw [HT.out, List.append_assoc])) hgrow3
          clear hown3 hgrow3 S S1
          refine Lib.hid ?_
          go_wp2
          go_roundw
          case rel => exact ⟨t + 1, by omega, by go_num, S2⟩
          case measure => simp [RowKit.intOf]; omega
        · have et : t = k := by omega
          subst et
          have HI : Hid (lens n t = [128 + (t : Int)] ++ (b256 n t).take t) := by
            show _ = _
            unfold lens; rw [if_neg (by omega), List.take_of_length_le (by rw [b256_length]; exact Nat.le_refl _)]
          clear hlt
          go_wp2
          go_ret
          refine ⟨_, t, rfl, HW.out, ?_, hbw.trans (S.bel.mono hbw.size)⟩
          rw [HI.out]
          refine owns_up (owns_down (owns_eq S.own ?_ rfl)) (fun q hq => ?_)
          · rw [List.length_append, List.take_of_length_le (by rw [b256_length]; exact Nat.le_refl _), b256_length]; rfl
          · have := (S.own.lt q hq).1
            rw [HSZ.out] at this
            omega
end Go.Proofs.Qxb6604565a.Ber
