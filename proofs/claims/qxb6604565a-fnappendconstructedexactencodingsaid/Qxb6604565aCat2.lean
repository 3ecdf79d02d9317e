/-
  The walk of zzCat.
-/
import Derived.Test.Qxb6604565aCat
namespace Go.Proofs.Qxb6604565a.Ber
open Go.ChangeShapes Go.WideShapes Go.ChangeAt Go.RowKit
set_option linter.unusedVariables false

/-- the walk's state: what is gathered so far -/
structure Og (w W : World) (v : Value) (n : Nat) (zs : List Int) : Prop where
  own : W.ownsRow w.heap.size 5 1 v n (cells zs)
  bel : Below w.heap.size w W

theorem Og.next {w W W1 W' : World} {v v' : Value} {n n' : Nat} {zs zs' : List Int} {xs : List Value} (S : Og w W v n zs) (hb : Below W.heap.size W W1) (hown : W'.ownsRow w.heap.size 5 1 v' n' xs) (hx : xs = cells zs') (hgrow : W1.grownBy W' v.ownBlock) : Og w W' v' n' zs' := by
  subst hx
  exact ⟨hown, (S.bel.trans (hb.mono S.bel.size)).grown hgrow (Nat.le_trans S.bel.size hb.size) (fun k hk => (S.own.lt k hk).1)⟩

theorem cells_snoc (zs : List Int) (c : Int) : cells zs ++ [.int .u8 c] = cells (zs ++ [c]) := by simp [cells]

theorem Og.cast {w W : World} {v : Value} {n n' : Nat} {zs zs' : List Int} (S : Og w W v n zs) (hn : n = n') (hz : zs = zs') : Og w W v n' zs' := by subst hn hz; exact S

/-- a row's cells, in a later world -/
theorem read_in {w wr : World} {n : Nat} {a : Option Addr} {zs : List Int} (hs : ∀ i, i < n → ∃ g, a = some ⟨g, 0, none⟩ ∧ w.cell? ⟨g, i, none⟩ = some (.int .u8 (zs.getD i 0))) (hb : Below w.heap.size w wr) (k : Nat) (hk : k < n) :
    ∃ g, a = some ⟨g, 0, none⟩ ∧ wr.cell? ⟨g, k, none⟩ = some (.int .u8 (zs.getD k 0)) := by
  obtain ⟨g, ha, hc⟩ := hs k hk
  refine ⟨g, ha, ?_⟩
  rw [hb.cell (p := ⟨g, k, none⟩) (World.block_lt_of_cell? _ _ hc)]
  exact hc

theorem take_snoc (zs : List Int) (k : Nat) (h : k < zs.length) : zs.take (k + 1) = zs.take k ++ [zs.getD k 0] := by
  rw [List.take_succ_eq_append_getElem h]
  simp [List.getD, h]

set_option maxHeartbeats 2000000 in
theorem cat_any (va vb : Value) (na nb : Nat) (za zb : List Int) (w : World) (hl : na + nb ≤ 4000000) (ha : w.ownsRow 0 5 1 va na (cells za)) (hb : w.ownsRow 0 5 1 vb nb (cells zb)) :
    Calls Try.prog 8 #[va, vb] w fun r w' => ∃ v, r = .returned v ∧ w'.ownsRow w.heap.size 5 1 v (na + nb) (cells (za ++ zb)) ∧ Below w.heap.size w w' := by
  obtain ⟨i0, hi, hz0, hz1, hz2⟩ := info_parts info5
  obtain ⟨hla, a, ca, rfl, _, _, hsa⟩ := owns_read ha
  obtain ⟨hlb, b, cb, rfl, _, _, hsb⟩ := owns_read hb
  have HLA := Lib.hid hla
  have HLB := Lib.hid hlb
  have HSA := Lib.hid hsa
  have HSB := Lib.hid hsb
  clear ha hb hla hlb hsa hsb
  go_enter Try.func8, Try.ntmps8
  go_wp2_with (at_make; go_must (refine wpList_make_own _ rfl _ _ 23 rfl w.heap.size 5 i0 (.int .u8 0) 1 Try.underlying23 hi hz0 hz1 .i64 .i64 _ (na + nb) rfl rfl (by omega) (by rw [hz2]; omega) (by unfold maxLen; omega) (Nat.le_refl _) ?_; intro w1 hown1 hgrow1; refine Hid.out ?_))
  have S0 : Og w w1 (.slice (some ⟨w.heap.size, 0, none⟩) 0 (na + nb)) 0 [] := ⟨hown1, (Below.refl _ _).grown hgrow1 (Nat.le_refl _) (fun k hk => by cases hk)⟩
  clear hown1 hgrow1
  refine Lib.hid ?_
  go_wp2
  go_loopw [5, 6] (fun v i wr => ∃ k : Nat, k ≤ na ∧ i = .int .i64 k ∧ Og w wr v k (za.take k)) (fun _ i _ => na - (RowKit.intOf i).toNat)
  case atStart => exact ⟨0, Nat.zero_le _, rfl, S0.cast rfl (by simp)⟩
  case round =>
    obtain ⟨k, hk, rfl, S⟩ := hrel
    by_cases hlt : k < na
    · obtain ⟨g, rfl, hcell⟩ := read_in HSA.out S.bel k hlt
      have HE := Lib.hid (take_snoc za k (by rw [HLA.out]; exact hlt))
      go_wp2_with (at_builtin; go_must (refine wpList_append_own _ rfl (.tmp 20) (.tmp 25) 23 rfl w.heap.size 5 i0 (.int .u8 0) 1 1 Try.underlying23 hi hz0 hz1 hz2 rfl (by decide) _ _ _ rfl (S.own.alloc _) ⟨wr.heap.size, 0, none⟩ 1 1 [.int .u8 (za.getD k 0)] rfl rfl (one_cells wr _ _) (by intro x hx; simp at hx; subst hx; rfl) (by unfold maxLen; omega) (by omega) (by have := S.bel.size; simp; omega) ?_; intro v2 w2 hown2 hgrow2 _; refine Hid.out ?_))
      have S2 := S.next (zs' := za.take (k + 1)) ((Below.refl _ _).alloc (Nat.le_refl _) _) hown2 ((cells_snoc _ _).trans (by rw [HE.out])) hgrow2
      clear hown2 hgrow2 S S0
      refine Lib.hid ?_
      go_wp2
      go_roundw
      case rel => exact ⟨k + 1, by omega, by go_num, S2⟩
      case measure => simp [RowKit.intOf]; omega
    · have ek : k = na := by omega
      subst ek
      clear hlt
      go_wp2
      go_loopw [5, 7] (fun v i wr => ∃ j : Nat, j ≤ nb ∧ i = .int .i64 j ∧ Og w wr v (k + j) (za ++ zb.take j)) (fun _ i _ => nb - (RowKit.intOf i).toNat)
      case atStart => exact ⟨0, Nat.zero_le _, rfl, S.cast rfl (by rw [List.take_of_length_le (by rw [HLA.out]; exact Nat.le_refl _)]; simp)⟩
      case round =>
        obtain ⟨j, hj, rfl, T⟩ := hrel
        by_cases hlt : j < nb
        · obtain ⟨g, rfl, hcell⟩ := read_in HSB.out T.bel j hlt
          have HE := Lib.hid (take_snoc zb j (by rw [HLB.out]; exact hlt))
          go_wp2_with (at_builtin; go_must (refine wpList_append_own _ rfl (.tmp 33) (.tmp 38) 23 rfl w.heap.size 5 i0 (.int .u8 0) 1 1 Try.underlying23 hi hz0 hz1 hz2 rfl (by decide) _ _ _ rfl (T.own.alloc _) ⟨wr.heap.size, 0, none⟩ 1 1 [.int .u8 (zb.getD j 0)] rfl rfl (one_cells wr _ _) (by intro x hx; simp at hx; subst hx; rfl) (by unfold maxLen; omega) (by omega) (by have := T.bel.size; simp; omega) ?_; intro v2 w2 hown2 hgrow2 _; refine Hid.out ?_))
          have T2 := T.next (zs' := za ++ zb.take (j + 1)) ((Below.refl _ _).alloc (Nat.le_refl _) _) hown2 ((cells_snoc _ _).trans (by rw [HE.out, List.append_assoc])) hgrow2
          clear hown2 hgrow2 T S S0
          refine Lib.hid ?_
          go_wp2
          go_roundw
          case rel => exact ⟨j + 1, by omega, by go_num, T2⟩
          case measure => simp [RowKit.intOf]; omega
        · have ej : j = nb := by omega
          subst ej
          clear hlt
          go_wp2
          go_ret
          refine ⟨_, rfl, ?_, T.bel⟩
          have := T.own
          rw [List.take_of_length_le (by rw [HLB.out]; exact Nat.le_refl _)] at this
          exact this
end Go.Proofs.Qxb6604565a.Ber
