/-
  The walks of lengthSize and appendBase128.
-/
import Derived.Laws.BitsAllLaws
import Derived.Test.Qxb6604565aLen
namespace Go.Proofs.Qxb6604565a.Ber
open Go.ChangeShapes Go.WideShapes Go.ChangeAt Go.RowKit
set_option linter.unusedVariables false

set_option maxRecDepth 100000 in
set_option maxHeartbeats 1000000 in
theorem lengthSize_any (n : Nat) (w : World) (hs : 128 ≤ n) (hn : n ≤ 1048576) :
    Calls Try.prog 23 #[.int .i64 (n : Int)] w fun r w' => ∃ K : Nat, r = .returned (.int .i64 (K : Int)) ∧ Wd 256 n K ∧ w' = w := by
  go_enter Try.func23, Try.ntmps23
  go_wp2
  go_loop [0, 3] (fun x s => ∃ k : Nat, k ≤ 3 ∧ (k = 0 ∨ qAt 256 n (k - 1) ≠ 0) ∧ x = .int .i64 (qAt 256 n k) ∧ s = .int .i64 (k : Int)) (fun _ s => (10 - RowKit.intOf s).toNat)
  case atStart => exact ⟨0, by omega, .inl rfl, rfl, rfl⟩
  case round =>
    obtain ⟨k, hk, hful, rfl, rfl⟩ := hrel
    have z1 := qAt_nonneg 256 n (by omega) (by omega) k
    have z2 : qAt 256 n k ≤ 1048576 := Int.le_trans (qAt_le 256 n (by omega) (by omega) k) (by omega)
    by_cases hz : 0 < qAt 256 n k
    · have hk3 : k ≤ 2 := by
        by_cases e : k = 3
        · subst e
          have := q256_3 n (by omega) (by omega)
          omega
        · omega
      have HU := Lib.hid (qAt_succ 256 n k)
      clear hful
      go_wp2
      go_roundw
      case rel => exact ⟨k + 1, by omega, .inr (by rw [Nat.add_sub_cancel]; omega), by rw [HU.out], by go_num⟩
      case measure => simp [RowKit.intOf]; omega
    · have hk0 : 1 ≤ k := by
        by_cases e : k = 0
        · subst e; exfalso; apply hz; show (0 : Int) < (n : Int); omega
        · omega
      have HW : Hid (Wd 256 n k) := by
        refine ⟨hk0, by omega, ?_⟩
        rcases hful with e | e
        · omega
        · right; exact e
      clear hful
      go_wp2
      go_ret
      exact ⟨k, rfl, HW.out, rfl⟩

theorem or128_nat : ∀ a : Nat, a < 128 → a ||| 128 = a + 128 := by decide
theorem and127 (x : Int) (h : 0 ≤ x) : bits .and .u8 (x % 256) 127 = x % 128 := by
  rw [u8_and (x % 256) 127 (by omega) (by omega) (by omega) (by omega)]
  have e : ((x % 256).toNat &&& (127 : Int).toNat) = (x % 256).toNat % 128 := Nat.and_two_pow_sub_one_eq_mod _ 7
  rw [e]
  omega
theorem or128 (x : Int) : bits .or .u8 (x % 128) 128 = x % 128 + 128 := by
  rw [u8_or (x % 128) 128 (by omega) (by omega) (by omega) (by omega)]
  have e := or128_nat (x % 128).toNat (by omega)
  have e2 : (128 : Int).toNat = 128 := rfl
  rw [e2, e]
  omega

/-- the walk's state over any base -/
structure Ob (B : Nat) (w W : World) (v : Value) (n : Nat) (xs : List Value) : Prop where
  own : W.ownsRow B 5 1 v n xs
  bel : Below B w W
  hB : B ≤ W.heap.size

theorem Ob.next {B : Nat} {w W W1 W' : World} {v v' : Value} {n n' : Nat} {xs xs' : List Value} (S : Ob B w W v n xs) (hb : Below W.heap.size W W1) (hown : W'.ownsRow B 5 1 v' n' xs') (hgrow : W1.grownBy W' v.ownBlock) : Ob B w W' v' n' xs' :=
  ⟨hown, (S.bel.trans (hb.mono S.hB)).grown hgrow (Nat.le_trans S.hB hb.size) (fun k hk => (S.own.lt k hk).1), Nat.le_trans S.hB (Nat.le_trans hb.size hgrow.size)⟩
theorem Ob.cast {B : Nat} {w W : World} {v : Value} {n n' : Nat} {xs xs' : List Value} (S : Ob B w W v n xs) (hn : n = n') (hx : xs = xs') : Ob B w W v n' xs' := by subst hn hx; exact S

theorem q1 (v : Int) : qAt 128 v 1 = v / 128 := rfl
theorem q2 (v : Int) (h : 0 ≤ v) : qAt 128 v 2 = v / 16384 := by simp only [qAt]; omega
theorem q3 (v : Int) (h : 0 ≤ v) : qAt 128 v 3 = v / 2097152 := by simp only [qAt]; omega
theorem q4 (v : Int) (h : 0 ≤ v) : qAt 128 v 4 = v / 268435456 := by simp only [qAt]; omega

set_option maxRecDepth 100000 in
set_option maxHeartbeats 4000000 in
theorem base128_any (num : Int) (w : World) (h0 : 31 ≤ num) (hn : num ≤ 4294967295) (B n : Nat) (sv : Value) (xs : List Value) (hown : w.ownsRow B 5 1 sv n xs) (hBw : B ≤ w.heap.size) (hlim : n ≤ 4000000) :
    Calls Try.prog 22 #[sv, .int .u64 num] w fun r w' => ∃ v' K, r = .returned v' ∧ Wd 128 num K ∧ w'.ownsRow B 5 1 v' (n + K) (xs ++ cells (b128 num K)) ∧ Below B w w' := by
  obtain ⟨i0, hi, hz0, hz1, hz2⟩ := info_parts info5
  have S0 : Ob B w w sv n xs := ⟨hown, Below.refl _ _, hBw⟩
  clear hown
  go_enter Try.func22, Try.ntmps22
  go_wp2
  go_loop [5, 6] (fun s x => ∃ k : Nat, k ≤ 4 ∧ (k = 0 ∨ qAt 128 num k ≠ 0) ∧ s = .int .i64 ((k : Int) + 1) ∧ x = .int .u64 (qAt 128 num (k + 1))) (fun s _ => (10 - RowKit.intOf s).toNat)
  case atStart => exact ⟨0, by omega, .inl rfl, by go_num, rfl⟩
  case round =>
    obtain ⟨k, hk, hful, rfl, rfl⟩ := hrel
    have z1 := qAt_nonneg 128 num (by omega) (by omega) (k + 1)
    have z2 : qAt 128 num (k + 1) ≤ 4294967295 := Int.le_trans (qAt_le 128 num (by omega) (by omega) (k + 1)) hn
    by_cases hz : 0 < qAt 128 num (k + 1)
    · have hk3 : k ≤ 3 := by
        by_cases e : k = 4
        · subst e
          have : qAt 128 num (4 + 1) = 0 := q128_5 num (by omega) hn
          omega
        · omega
      have HU := Lib.hid (qAt_succ 128 num (k + 1))
      clear hful S0
      go_wp2
      go_round
      case rel => exact ⟨k + 1, by omega, .inr (by omega), by go_num, by rw [HU.out]⟩
      case measure => simp [RowKit.intOf]; omega
    · have HW : Hid (Wd 128 num (k + 1)) := by
        refine ⟨by omega, by omega, ?_⟩
        rcases hful with e | e
        · left; omega
        · right; rw [Nat.add_sub_cancel]; exact e
      clear hful
      go_wp2_with fail
      go_loopw [0, 7] (fun v i wr => ∃ t : Nat, t ≤ k + 1 ∧ i = .int .i64 ((k : Int) - (t : Int)) ∧ Ob B w wr v (n + t) (xs ++ cells ((b128 num (k + 1)).take t))) (fun _ i _ => (RowKit.intOf i + 1).toNat)
      case atStart => exact ⟨0, by omega, by go_num, S0.cast rfl (by simp [cells])⟩
      case round =>
        obtain ⟨t, ht, rfl, S⟩ := hrel
        by_cases hlt : t < k + 1
        · have HT := Lib.hid (b128_take num (k + 1) t hlt)
          clear S0
          have hidx : k - t = 0 ∨ k - t = 1 ∨ k - t = 2 ∨ k - t = 3 ∨ k - t = 4 := by omega
          have htk : t ≤ k := by omega
          rcases hidx with e | e | e | e | e
          · have hidx : (k : Int) - (t : Int) = 0 := by omega
            have hand := and127 num (by omega)
            have HV : Hid (g128 num (k + 1 - 1 - t) = num % 128) := by
              show _ = _
              rw [show k + 1 - 1 - t = 0 by omega]
              unfold g128
              rw [if_pos rfl, show qAt 128 num 0 = num from rfl]; omega
            clear e
            go_wp2_with (at_builtin; go_must (refine wpList_append_own _ rfl (.tmp 33) (.tmp 35) 23 rfl B 5 i0 (.int .u8 0) 1 1 Try.underlying23 hi hz0 hz1 hz2 rfl (by decide) _ _ _ rfl (S.own.alloc _) ⟨wr.heap.size, 0, none⟩ 1 1 [.int .u8 (num % 128)] rfl rfl (one_cells wr _ _) (by intro x hx; simp at hx; subst hx; rfl) (by unfold maxLen; omega) (by omega) (by have := S.hB; simp; omega) ?_; intro v3 w3 hown3 hgrow3 _; refine Hid.out ?_))
            have S2 := (S.next ((Below.refl _ _).alloc (Nat.le_refl _) _) hown3 hgrow3).cast (n' := n + (t + 1)) (xs' := xs ++ cells ((b128 num (k + 1)).take (t + 1))) (by omega) (by rw [HT.out, HV.out, cells_append, List.append_assoc]; rfl)
            have HIX := Lib.hid hidx
            clear hown3 hgrow3 S hidx
            refine Lib.hid ?_
            go_wp2
            go_roundw
            case rel => exact ⟨t + 1, by omega, by have := HIX.out; go_num, S2⟩
            case measure => have := HIX.out; simp [RowKit.intOf]; omega
          · have hidx : (k : Int) - (t : Int) = 1 := by omega
            have hand := and127 (num / 128) (by omega)
            have hor := or128 (num / 128)
            have HV : Hid (g128 num (k + 1 - 1 - t) = (num / 128) % 128 + 128) := by
              show _ = _
              rw [show k + 1 - 1 - t = 1 by omega]
              unfold g128
              rw [if_neg (by omega), show qAt 128 num 1 = (num / 128) from q1 num]
            clear e
            go_wp2_with (at_builtin; go_must (refine wpList_append_own _ rfl (.tmp 33) (.tmp 35) 23 rfl B 5 i0 (.int .u8 0) 1 1 Try.underlying23 hi hz0 hz1 hz2 rfl (by decide) _ _ _ rfl (S.own.alloc _) ⟨wr.heap.size, 0, none⟩ 1 1 [.int .u8 ((num / 128) % 128 + 128)] rfl rfl (one_cells wr _ _) (by intro x hx; simp at hx; subst hx; rfl) (by unfold maxLen; omega) (by omega) (by have := S.hB; simp; omega) ?_; intro v3 w3 hown3 hgrow3 _; refine Hid.out ?_))
            have S2 := (S.next ((Below.refl _ _).alloc (Nat.le_refl _) _) hown3 hgrow3).cast (n' := n + (t + 1)) (xs' := xs ++ cells ((b128 num (k + 1)).take (t + 1))) (by omega) (by rw [HT.out, HV.out, cells_append, List.append_assoc]; rfl)
            have HIX := Lib.hid hidx
            clear hown3 hgrow3 S hidx
            refine Lib.hid ?_
            go_wp2
            go_roundw
            case rel => exact ⟨t + 1, by omega, by have := HIX.out; go_num, S2⟩
            case measure => have := HIX.out; simp [RowKit.intOf]; omega
          · have hidx : (k : Int) - (t : Int) = 2 := by omega
            have hand := and127 (num / 16384) (by omega)
            have hor := or128 (num / 16384)
            have HV : Hid (g128 num (k + 1 - 1 - t) = (num / 16384) % 128 + 128) := by
              show _ = _
              rw [show k + 1 - 1 - t = 2 by omega]
              unfold g128
              rw [if_neg (by omega), show qAt 128 num 2 = (num / 16384) from q2 num (by omega)]
            clear e
            go_wp2_with (at_builtin; go_must (refine wpList_append_own _ rfl (.tmp 33) (.tmp 35) 23 rfl B 5 i0 (.int .u8 0) 1 1 Try.underlying23 hi hz0 hz1 hz2 rfl (by decide) _ _ _ rfl (S.own.alloc _) ⟨wr.heap.size, 0, none⟩ 1 1 [.int .u8 ((num / 16384) % 128 + 128)] rfl rfl (one_cells wr _ _) (by intro x hx; simp at hx; subst hx; rfl) (by unfold maxLen; omega) (by omega) (by have := S.hB; simp; omega) ?_; intro v3 w3 hown3 hgrow3 _; refine Hid.out ?_))
            have S2 := (S.next ((Below.refl _ _).alloc (Nat.le_refl _) _) hown3 hgrow3).cast (n' := n + (t + 1)) (xs' := xs ++ cells ((b128 num (k + 1)).take (t + 1))) (by omega) (by rw [HT.out, HV.out, cells_append, List.append_assoc]; rfl)
            have HIX := Lib.hid hidx
            clear hown3 hgrow3 S hidx
            refine Lib.hid ?_
            go_wp2
            go_roundw
            case rel => exact ⟨t + 1, by omega, by have := HIX.out; go_num, S2⟩
            case measure => have := HIX.out; simp [RowKit.intOf]; omega
          · have hidx : (k : Int) - (t : Int) = 3 := by omega
            have hand := and127 (num / 2097152) (by omega)
            have hor := or128 (num / 2097152)
            have HV : Hid (g128 num (k + 1 - 1 - t) = (num / 2097152) % 128 + 128) := by
              show _ = _
              rw [show k + 1 - 1 - t = 3 by omega]
              unfold g128
              rw [if_neg (by omega), show qAt 128 num 3 = (num / 2097152) from q3 num (by omega)]
            clear e
            go_wp2_with (at_builtin; go_must (refine wpList_append_own _ rfl (.tmp 33) (.tmp 35) 23 rfl B 5 i0 (.int .u8 0) 1 1 Try.underlying23 hi hz0 hz1 hz2 rfl (by decide) _ _ _ rfl (S.own.alloc _) ⟨wr.heap.size, 0, none⟩ 1 1 [.int .u8 ((num / 2097152) % 128 + 128)] rfl rfl (one_cells wr _ _) (by intro x hx; simp at hx; subst hx; rfl) (by unfold maxLen; omega) (by omega) (by have := S.hB; simp; omega) ?_; intro v3 w3 hown3 hgrow3 _; refine Hid.out ?_))
            have S2 := (S.next ((Below.refl _ _).alloc (Nat.le_refl _) _) hown3 hgrow3).cast (n' := n + (t + 1)) (xs' := xs ++ cells ((b128 num (k + 1)).take (t + 1))) (by omega) (by rw [HT.out, HV.out, cells_append, List.append_assoc]; rfl)
            have HIX := Lib.hid hidx
            clear hown3 hgrow3 S hidx
            refine Lib.hid ?_
            go_wp2
            go_roundw
            case rel => exact ⟨t + 1, by omega, by have := HIX.out; go_num, S2⟩
            case measure => have := HIX.out; simp [RowKit.intOf]; omega
          · have hidx : (k : Int) - (t : Int) = 4 := by omega
            have hand : bits .and .u8 (num / 268435456) 127 = num / 268435456 % 128 := by
              have h := and127 (num / 268435456) (by omega)
              rwa [show num / 268435456 % 256 = num / 268435456 by omega] at h
            have hor := or128 (num / 268435456)
            have HV : Hid (g128 num (k + 1 - 1 - t) = (num / 268435456) % 128 + 128) := by
              show _ = _
              rw [show k + 1 - 1 - t = 4 by omega]
              unfold g128
              rw [if_neg (by omega), show qAt 128 num 4 = (num / 268435456) from q4 num (by omega)]
            clear e
            go_wp2_with (at_builtin; go_must (refine wpList_append_own _ rfl (.tmp 33) (.tmp 35) 23 rfl B 5 i0 (.int .u8 0) 1 1 Try.underlying23 hi hz0 hz1 hz2 rfl (by decide) _ _ _ rfl (S.own.alloc _) ⟨wr.heap.size, 0, none⟩ 1 1 [.int .u8 ((num / 268435456) % 128 + 128)] rfl rfl (one_cells wr _ _) (by intro x hx; simp at hx; subst hx; rfl) (by unfold maxLen; omega) (by omega) (by have := S.hB; simp; omega) ?_; intro v3 w3 hown3 hgrow3 _; refine Hid.out ?_))
            have S2 := (S.next ((Below.refl _ _).alloc (Nat.le_refl _) _) hown3 hgrow3).cast (n' := n + (t + 1)) (xs' := xs ++ cells ((b128 num (k + 1)).take (t + 1))) (by omega) (by rw [HT.out, HV.out, cells_append, List.append_assoc]; rfl)
            have HIX := Lib.hid hidx
            clear hown3 hgrow3 S hidx
            refine Lib.hid ?_
            go_wp2
            go_roundw
            case rel => exact ⟨t + 1, by omega, by have := HIX.out; go_num, S2⟩
            case measure => have := HIX.out; simp [RowKit.intOf]; omega
        · have et : t = k + 1 := by omega
          subst et
          clear hlt S0
          go_wp2
          go_ret
          refine ⟨_, k + 1, rfl, HW.out, ?_, S.bel⟩
          have := S.own
          rw [List.take_of_length_le (by rw [b128_length]; exact Nat.le_refl _)] at this
          exact this
end Go.Proofs.Qxb6604565a.Ber
