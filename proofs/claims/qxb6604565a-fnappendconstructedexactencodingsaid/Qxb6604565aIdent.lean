/-
  The walks of zzIdent and zzLen.
-/
import Derived.Test.Qxb6604565aCat2
import Derived.Test.Qxb6604565aPlain
namespace Go.Proofs.Qxb6604565a.Ber
open Go.ChangeShapes Go.WideShapes Go.ChangeAt Go.RowKit
set_option linter.unusedVariables false

theorem owns_lit (w : World) (c : Int) : (w.alloc (.cells #[.int .u8 c] 5)).ownsRow w.heap.size 5 1 (.slice (some ⟨w.heap.size, 0, none⟩) 1 1) 1 (cells [c]) :=
  ⟨rfl, .inr ⟨w.heap.size, 1, _, rfl, Nat.le_refl _, heap_alloc_last w _, Nat.le_refl _, by unfold maxLen; omega, rfl, rfl⟩⟩

theorem ident_small (c num : Int) (w : World) (hc : 0 ≤ c ∧ c ≤ 255) (hn : 0 ≤ num) (hs : num < 31) (K : Nat) :
    Calls Try.prog 9 #[.int .u8 c, .bool true, .int .u32 num] w fun r w' => ∃ v, r = .returned v ∧ w'.ownsRow w.heap.size 5 1 v (ident c num K).length (cells (ident c num K)) ∧ Below w.heap.size w w' := by
  obtain ⟨hc1, hc2⟩ := hc
  have HI : Hid (ident c num K = [c % 4 * 64 + 32 + num]) := by show _ = _; unfold ident; rw [if_pos hs]
  go_enter Try.func9, Try.ntmps9
  go_wp2
  go_ret
  refine ⟨_, rfl, ?_, (Below.refl _ _).alloc (Nat.le_refl _) _⟩
  rw [HI.out]
  exact owns_lit w _

/-- the groups behind k rounds -/
def GrpAt (b v : Int) (S k : Nat) (cs : Array Value) : Prop := cs.size = S ∧ ∀ j, j < k → cs[j]? = some (.int .u8 (qAt b v j % b))
theorem GrpAt.step {b v : Int} {S k : Nat} {cs : Array Value} (h : GrpAt b v S k cs) (hk : k < S) : GrpAt b v S (k + 1) (cs.setIfInBounds k (.int .u8 (qAt b v k % b))) := by
  refine ⟨by simp [h.1], fun j hj => ?_⟩
  have hs := h.1
  by_cases e : j = k
  · subst e
    rw [Array.getElem?_setIfInBounds_self_of_lt (by omega)]
  · rw [Array.getElem?_setIfInBounds_ne (by omega)]
    exact h.2 j (by omega)

set_option maxHeartbeats 4000000 in
theorem ident_big (c num : Int) (w : World) (hc : 0 ≤ c ∧ c ≤ 255) (hs : 31 ≤ num) (hn : num ≤ 4294967295) :
    Calls Try.prog 9 #[.int .u8 c, .bool true, .int .u32 num] w fun r w' => ∃ v K, r = .returned v ∧ Wd 128 num K ∧ w'.ownsRow w.heap.size 5 1 v (ident c num K).length (cells (ident c num K)) ∧ Below w.heap.size w w' := by
  obtain ⟨i0, hi, hz0, hz1, hz2⟩ := info_parts info5
  obtain ⟨hc1, hc2⟩ := hc
  go_enter Try.func9, Try.ntmps9
  go_wp2
  go_loopw [9, 10] (fun kk x wr => ∃ (k : Nat) (cs : Array Value), k ≤ 4 ∧ GrpAt 128 num 5 k cs ∧ (k = 0 ∨ qAt 128 num k ≠ 0) ∧ kk = .int .i64 (k : Int) ∧ x = .int .u32 (qAt 128 num k) ∧ wr = w.alloc (.cells cs 42)) (fun kk _ _ => (10 - RowKit.intOf kk).toNat)
  case atStart => exact ⟨0, _, by omega, ⟨rfl, fun j hj => by omega⟩, .inl rfl, rfl, rfl, rfl⟩
  case round =>
    obtain ⟨k, cs, hk, hbuf, hful, rfl, rfl, rfl⟩ := hrel
    have z1 := qAt_nonneg 128 num (by omega) (by omega) k
    have z2 := Int.le_trans (qAt_le 128 num (by omega) (by omega) k) hn
    obtain ⟨v0, hv0⟩ : ∃ v, cs[k]? = some v := ⟨_, Array.getElem?_eq_getElem (by have := hbuf.1; omega)⟩
    have HB := Lib.hid (hbuf.step (by omega))
    have HF := Lib.hid hful
    have HU := Lib.hid (qAt_succ 128 num k)
    clear hbuf hful
    by_cases hz : qAt 128 num k < 128
    · have HW : Hid (Wd 128 num (k + 1)) := by
        refine ⟨by omega, by rw [HU.out]; omega, ?_⟩
        rcases HF.out with e | e
        · left; omega
        · right; rw [Nat.add_sub_cancel]; exact e
      obtain ⟨A, HA⟩ : ∃ A, Hid (A = cs.setIfInBounds k (.int .u8 (qAt 128 num k % 128))) := ⟨_, rfl⟩
      go_wp2_with (at_make; go_must (refine wpList_make_own _ rfl _ _ 23 rfl (w.heap.size + 1) 5 i0 (.int .u8 0) 1 Try.underlying23 hi hz0 hz1 .i64 .i64 _ (k + 2) rfl rfl (by omega) (by rw [hz2]; omega) (by unfold maxLen; omega) (by simp) ?_; intro w1 hown1 hgrow1; refine Hid.out ?_))
      have hsz : (w.alloc (.cells (cs.setIfInBounds k (.int .u8 (qAt 128 num k % 128))) 42)).heap.size = w.heap.size + 1 := by simp
      have S0 : Og (w.alloc (.cells (cs.setIfInBounds k (.int .u8 (qAt 128 num k % 128))) 42)) w1 (.slice (some ⟨w.heap.size + 1, 0, none⟩) 0 (k + 2)) 0 [] :=
        ⟨by rw [hsz]; rw [hsz] at hown1; exact hown1, (Below.refl _ _).grown hgrow1 (Nat.le_refl _) (fun q hq => by cases hq)⟩
      have hgrp : ∀ j, j < k + 1 → (w.alloc (.cells (cs.setIfInBounds k (.int .u8 (qAt 128 num k % 128))) 42)).cell? ⟨w.heap.size, j, none⟩ = some (.int .u8 (qAt 128 num j % 128)) := by
        intro j hj
        rw [World.cell?_alloc_new]; exact HB.out.2 j hj
      have hbw : Below w.heap.size w (w.alloc (.cells (cs.setIfInBounds k (.int .u8 (qAt 128 num k % 128))) 42)) := (Below.refl _ _).alloc (Nat.le_refl _) _
      clear hown1 hgrow1
      generalize w.alloc (.cells (cs.setIfInBounds k (.int .u8 (qAt 128 num k % 128))) 42) = Wg at S0 hgrp hbw hsz
      have HG := Lib.hid hgrp
      have HSZ := Lib.hid hsz
      clear hgrp hsz
      refine Lib.hid ?_
      go_wp2_with (at_builtin; go_must (refine wpList_append_own _ rfl (.tmp 41) (.tmp 44) 23 rfl Wg.heap.size 5 i0 (.int .u8 0) 1 1 Try.underlying23 hi hz0 hz1 hz2 rfl (by decide) _ _ _ rfl (S0.own.alloc _) ⟨w1.heap.size, 0, none⟩ 1 1 [.int .u8 (c % 4 * 64 + 32 + 31)] rfl rfl (one_cells w1 _ _) (by intro x hx; simp at hx; subst hx; rfl) (by unfold maxLen; omega) (by omega) (by have := S0.bel.size; simp; omega) ?_; intro v2 w2 hown2 hgrow2 _; refine Hid.out ?_))
      have S1 := S0.next (zs' := [c % 4 * 64 + 32 + 31]) ((Below.refl _ _).alloc (Nat.le_refl _) _) hown2 rfl hgrow2
      clear hown2 hgrow2 S0
      refine Lib.hid ?_
      go_wp2_with fail
      go_loopw [11, 12] (fun v i wr => ∃ t : Nat, t ≤ k + 1 ∧ i = .int .i64 ((k : Int) - (t : Int)) ∧ Og Wg wr v (1 + t) ([c % 4 * 64 + 32 + 31] ++ (b128 num (k + 1)).take t)) (fun _ i _ => (RowKit.intOf i + 1).toNat)
      case atStart => exact ⟨0, by omega, by go_num, S1.cast rfl (by simp)⟩
      case round =>
        obtain ⟨t, ht, rfl, S⟩ := hrel
        by_cases hlt : t < k + 1
        · have hcell : wr.cell? ⟨w.heap.size, k - t, none⟩ = some (.int .u8 (qAt 128 num (k - t) % 128)) := by
            rw [S.bel.cell (p := ⟨w.heap.size, k - t, none⟩) (by show w.heap.size < _; rw [HSZ.out]; omega)]
            exact HG.out _ (by omega)
          have HT := Lib.hid (b128_take num (k + 1) t hlt)
          have q1 := qAt_nonneg 128 num (by omega) (by omega) (k - t)
          by_cases h0 : t < k
          · have HV : Hid (g128 num (k + 1 - 1 - t) = qAt 128 num (k - t) % 128 + 128) := by show _ = _; unfold g128; rw [if_neg (by omega), show k + 1 - 1 - t = k - t by omega]
            go_wp2_with (at_builtin; go_must (refine wpList_append_own _ rfl (.tmp 54) (.tmp 59) 23 rfl Wg.heap.size 5 i0 (.int .u8 0) 1 1 Try.underlying23 hi hz0 hz1 hz2 rfl (by decide) _ _ _ rfl (S.own.alloc _) ⟨wr.heap.size, 0, none⟩ 1 1 [.int .u8 (qAt 128 num (k - t) % 128 + 128)] rfl rfl (one_cells wr _ _) (by intro x hx; simp at hx; subst hx; rfl) (by unfold maxLen; omega) (by omega) (by have := S.bel.size; simp; omega) ?_; intro v3 w3 hown3 hgrow3 _; refine Hid.out ?_))
            have S2 := S.next (zs' := [c % 4 * 64 + 32 + 31] ++ (b128 num (k + 1)).take (t + 1)) ((Below.refl _ _).alloc (Nat.le_refl _) _) hown3 ((cells_snoc _ _).trans (by rw [HT.out, HV.out, List.append_assoc])) hgrow3
            clear hown3 hgrow3 S S1
            refine Lib.hid ?_
            go_wp2
            go_roundw
            case rel => exact ⟨t + 1, by omega, by go_num, S2⟩
            case measure => simp [RowKit.intOf]; omega
          · have et : t = k := by omega
            have HV : Hid (g128 num (k + 1 - 1 - t) = qAt 128 num (k - t) % 128) := by show _ = _; unfold g128; rw [if_pos (by omega), show k + 1 - 1 - t = k - t by omega]; omega
            have ht1 : (k : Int) - (t : Int) ≤ 0 := by omega
            clear et
            go_wp2_with (at_builtin; go_must (refine wpList_append_own _ rfl (.tmp 61) (.tmp 65) 23 rfl Wg.heap.size 5 i0 (.int .u8 0) 1 1 Try.underlying23 hi hz0 hz1 hz2 rfl (by decide) _ _ _ rfl (S.own.alloc _) ⟨wr.heap.size, 0, none⟩ 1 1 [.int .u8 (qAt 128 num (k - t) % 128)] rfl rfl (one_cells wr _ _) (by intro x hx; simp at hx; subst hx; rfl) (by unfold maxLen; omega) (by omega) (by have := S.bel.size; simp; omega) ?_; intro v3 w3 hown3 hgrow3 _; refine Hid.out ?_))
            have S2 := S.next (zs' := [c % 4 * 64 + 32 + 31] ++ (b128 num (k + 1)).take (t + 1)) ((Below.refl _ _).alloc (Nat.le_refl _) _) hown3 ((cells_snoc _ _).trans (by rw [HT.out, HV.out, List.append_assoc])) hgrow3
            clear hown3 hgrow3 S S1
            refine Lib.hid ?_
            go_wp2
            go_roundw
            case rel => exact ⟨t + 1, by omega, by go_num, S2⟩
            case measure => simp [RowKit.intOf]; omega
        · have et : t = k + 1 := by omega
          subst et
          have HI : Hid (ident c num (k + 1) = [c % 4 * 64 + 32 + 31] ++ (b128 num (k + 1)).take (k + 1)) := by
            show _ = _
            unfold ident; rw [if_neg (by omega), List.take_of_length_le (by rw [b128_length]; exact Nat.le_refl _)]
          clear hlt
          go_wp2
          go_ret
          refine ⟨_, k + 1, rfl, HW.out, ?_, hbw.trans (S.bel.mono hbw.size)⟩
          rw [HI.out]
          refine owns_up (owns_down (owns_eq S.own ?_ rfl)) (fun q hq => ?_)
          · rw [List.length_append, List.take_of_length_le (by rw [b128_length]; exact Nat.le_refl _), b128_length]; rfl
          · have := (S.own.lt q hq).1
            rw [HSZ.out] at this
            omega
    · have hk3 : k ≤ 3 := by
        by_cases e : k = 4
        · subst e
          have := q128_5 num (by omega) hn
          rw [HU.out] at this
          omega
        · omega
      go_wp2
      go_roundw
      case rel => exact ⟨k + 1, _, by omega, HB.out, .inr (by rw [HU.out]; omega), by go_num, by rw [HU.out], rfl⟩
      case measure => simp [RowKit.intOf]; omega
end Go.Proofs.Qxb6604565a.Ber
