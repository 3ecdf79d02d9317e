/-
  appendDecimal's walk, a negative mantissa.
-/
import Derived.Test.Qxb6604222aDoorText
namespace Go.Proofs.Qxb6604222aDoor.Bufs
open Go.RowKit Go.Sort Go.Lib
set_option linter.unusedVariables false

set_option maxHeartbeats 4000000 in
theorem appendDecimal_neg (u : Nat) (e : Int) (hu1 : 1 ≤ u) (hu : u ≤ 9223372036854775808) (he1 : -9223372036854775808 ≤ e) (he2 : e ≤ 9223372036854775807) (B n : Nat) (sv : Value) (xs : List Value) (w : World)
    (hown : w.ownsRow B 5 1 sv n xs) (hBw : B ≤ w.heap.size) (hlim : n ≤ 1000000000) (htab : Lib.TabBelow Tryd.prog B w pow10Name .u64 Lib.pow10Tab) :
    Calls Tryd.prog 10 #[sv, .agg #[.int .i64 (-(u : Int)), .int .i64 e]] w fun r w' => ∃ v', r = .returned v' ∧ w'.ownsRow B 5 1 v' (n + 1 + (body u e).length) (xs ++ [.int .u8 45] ++ body u e) ∧ Below B w w' := by
  obtain ⟨i0, hi, hz0, hz1, hz2⟩ := info_parts Ints.dec_info5
  have HO := Lib.hid hown
  have HT := Lib.hid htab
  have hb0 : Below B w (w.alloc (.cells #[.int .i64 (-(u : Int)), .int .i64 e] 31)) := (Below.refl _ _).alloc hBw _
  have HB0 := Lib.hid hb0
  have hB1 : B ≤ (w.alloc (.cells #[.int .i64 (-(u : Int)), .int .i64 e] 31)).heap.size := by simp; omega
  have HB1 := Lib.hid hB1
  have hc1 := one_cells (w.alloc (.cells #[.int .i64 (-(u : Int)), .int .i64 e] 31)) (.int .u8 45) 5
  rw [show (w.alloc (.cells #[.int .i64 (-(u : Int)), .int .i64 e] 31)).heap.size = w.heap.size + 1 by simp] at hc1
  have HC1 := Lib.hid hc1
  have hlt : w.heap.size < ((w.alloc (.cells #[.int .i64 (-(u : Int)), .int .i64 e] 31)).alloc (.cells #[.int .u8 45] 5)).heap.size := by simp; omega
  have HLT := Lib.hid hlt
  have HBB : Hid (Below B w ((w.alloc (.cells #[.int .i64 (-(u : Int)), .int .i64 e] 31)).alloc (.cells #[.int .u8 45] 5))) := hb0.alloc hB1 _
  clear hown htab hb0 hB1 hc1 hlt
  have iu : -(u : Int) < 0 := by omega
  have iu2 : -9223372036854775808 ≤ -(u : Int) := by omega
  go_enter Tryd.func10, Tryd.ntmps10
  go_wp2_with (at_builtin; go_must (refine wpList_append_own _ rfl (.tmp 16) (.tmp 17) 22 rfl B 5 i0 (.int .u8 0) 1 1 Tryd.underlying22 hi hz0 hz1 hz2 rfl (by decide) _ _ _ rfl ((HO.out.alloc _).alloc _) ⟨w.heap.size + 1, 0, none⟩ 1 1 [.int .u8 45] rfl rfl HC1.out (by intro x hx; simp at hx; subst hx; rfl) (by unfold maxLen; omega) (by omega) (by simp; omega) ?_; intro v0 w0 hown0 hgrow0 _; refine Hid.out ?_))
  have hne : some w.heap.size ≠ sv.ownBlock := fun hb => by have := (HO.out.lt _ hb.symm).2; omega
  have hblk := hgrow0.block w.heap.size HLT.out hne
  have hc0 : w0.cell? ⟨w.heap.size, 0, none⟩ = some (.int .i64 (-(u : Int))) := by
    rw [World.cell?_of_block (a := ⟨w.heap.size, 0, none⟩) hblk, Ints.cell2_old]; rfl
  have hc1 : w0.cell? ⟨w.heap.size, 1, none⟩ = some (.int .i64 e) := by
    rw [World.cell?_of_block (a := ⟨w.heap.size, 1, none⟩) hblk, Ints.cell2_old]; rfl
  have HS0 : Hid (w.heap.size < w0.heap.size) := Nat.lt_of_lt_of_le HLT.out hgrow0.size
  have HOn := Lib.hid hown0
  have HBn : Hid (Below B w w0) := HBB.out.grown hgrow0 (Nat.le_trans hBw HBB.out.size) (fun k hk => (HO.out.lt k hk).1)
  clear hblk hne hown0 hgrow0
  refine Lib.hid ?_
  go_wp2_with fail
  rw [wrap_back u hu1 hu]
  refine (appendUint_any u (by omega) w0.heap.size (Ints.zeros 20) rfl _ (heap_alloc_last w0 _) (tab_at HT.out HBn.out (Nat.le_trans hBw HBn.out.size) _)).mono ?_
  rintro r W ⟨rfl, hbuf, hgr⟩
  have hbox : W.cell? ⟨w.heap.size, 1, none⟩ = some (.int .i64 e) := cell_kept (w1 := w0) rfl hgr HS0.out hc1
  have S : St B w W w0.heap.size u v0 (n + 1) (xs ++ [.int .u8 45]) := St.start HBn.out (Nat.le_trans hBw HBn.out.size) HOn.out rfl hgr hbuf
  obtain ⟨g, HG⟩ : ∃ g, Hid (g = w0.heap.size) := ⟨_, rfl⟩
  rw [← HG.out] at S ⊢
  clear hbuf hgr hc0 hc1
  go_wp2_with fail
  go_quiet (fail)
  have h20 := nDigits_le20 u (by omega)
  have S0 := S.drewN nq
  clear S hbox HB0 HB1 HO HC1 HLT HBB HS0 HOn HBn
  by_cases c1 : 0 ≤ e ∧ e ≤ 6
  · obtain ⟨hzc, hzn⟩ := zstr_cells e.toNat (by omega)
    have HZC := Lib.hid hzc
    have HZN := Lib.hid hzn
    have HBody : Hid (body u e = digs u ++ zs e.toNat ++ [.int .u8 46]) := by show _ = _; unfold body; rw [if_pos c1]
    have hzl : Hid ((zs e.toNat).length = e.toNat) := by show _ = _; simp [zs]
    clear hzc hzn
    obtain ⟨c1a, c1b⟩ := c1
    go_wp2_with (at_builtin; go_must (refine wpList_append_own _ rfl (.tmp 37) (.tmp 38) 22 rfl B 5 i0 (.int .u8 0) 1 1 Tryd.underlying22 hi hz0 hz1 hz2 rfl (by decide) _ _ _ rfl S0.own ⟨g, 0, none⟩ (nDigits u) 20 (digs u) rfl (by rw [digs_length]; omega) (S0.digs_cells h20) (digs_one u) (by unfold maxLen; omega) (by omega) S0.hB ?_; intro v1 w1 hown1 hgrow1 _; refine Hid.out ?_))
    have S1 := S0.next (Below.refl _ _) hown1 hgrow1
    clear hown1 hgrow1
    refine Lib.hid ?_
    go_wp2_with (at_builtin; go_must (refine Lib.wpList_append_own_string _ rfl (.tmp 40) (.tmp 42) 22 9 rfl B 5 i0 Tryd.underlying22 Tryd.underlying9 hi hz0 hz1 hz2 _ _ _ rfl S1.own ((⟨#[48, 48, 48, 48, 48, 48]⟩ : ByteArray).extract 0 e.toNat) rfl (by rw [HZN.out]; unfold maxLen; omega) (by rw [HZN.out]; omega) S1.hB ?_; intro v2 w2 hown2 hgrow2 _; refine Hid.out ?_))
    have S2 := S1.next (Below.refl _ _) hown2 hgrow2
    clear hown2 hgrow2
    refine Lib.hid ?_
    rw [HZN.out, HZC.out] at S2
    go_wp2_with (at_builtin; go_must (refine wpList_append_own _ rfl (.tmp 44) (.tmp 45) 22 rfl B 5 i0 (.int .u8 0) 1 1 Tryd.underlying22 hi hz0 hz1 hz2 rfl (by decide) _ _ _ rfl (S2.own.alloc _) ⟨w2.heap.size, 0, none⟩ 1 1 [.int .u8 46] rfl rfl (one_cells w2 _ _) (by intro x hx; simp at hx; subst hx; rfl) (by unfold maxLen; omega) (by omega) (by have := S2.hB; simp; omega) ?_; intro v3 w3 hown3 hgrow3 _; refine Hid.out ?_))
    have S3 := S2.next ((Below.refl _ _).alloc (Nat.le_refl _) _) hown3 hgrow3
    clear hown3 hgrow3
    refine Lib.hid ?_
    go_wp2
    go_ret
    refine ⟨v3, rfl, owns_eq S3.own ?_ ?_, S3.bel⟩
    · rw [HBody.out]; simp only [List.length_append, digs_length, hzl.out, List.length_cons, List.length_nil]; omega
    · rw [HBody.out]; simp only [List.append_assoc]
  by_cases c2 : e < 0 ∧ -(nDigits u : Int) < e
  · obtain ⟨k, HK⟩ : ∃ k : Nat, Hid ((nDigits u : Int) + e = (k : Int)) := ⟨((nDigits u : Int) + e).toNat, by show _ = _; omega⟩
    have hk := HK.out
    have HBody : Hid (body u e = (digs u).take k ++ [.int .u8 46] ++ (digs u).drop k) := by show _ = _; unfold body; rw [if_neg c1, if_pos c2, hk, Int.toNat_natCast]
    obtain ⟨c2a, c2b⟩ := c2
    have k1 : 1 ≤ k := by omega
    have k2 : k < nDigits u := by omega
    have d1 : decide (0 ≤ e) = false := by simp; omega
    have hs1 := run_sl_h g (nDigits u) k ((nDigits u : Int) + e) hk (by omega)
    have hs2 := run_sl_l g (nDigits u) k ((nDigits u : Int) + e) hk (by omega) (by omega)
    have HTL : Hid (((digs u).take k).length = k * 1) := by show _ = _; rw [List.length_take, digs_length]; omega
    have HDL : Hid (((digs u).drop k).length = (nDigits u - k) * 1) := by show _ = _; rw [List.length_drop, digs_length]; omega
    have HT1 : Hid (∀ v ∈ (digs u).take k, v.oneCell' = true) := fun v hv => digs_one u v (List.mem_of_mem_take hv)
    have HD1 : Hid (∀ v ∈ (digs u).drop k, v.oneCell' = true) := fun v hv => digs_one u v (List.mem_of_mem_drop hv)
    clear hk c1
    go_wp2_with (at_builtin; go_must (refine wpList_append_own _ rfl (.tmp 56) (.tmp 61) 22 rfl B 5 i0 (.int .u8 0) 1 1 Tryd.underlying22 hi hz0 hz1 hz2 rfl (by decide) _ _ _ rfl S0.own ⟨g, 0, none⟩ k 20 ((digs u).take k) rfl HTL.out (S0.take_cells h20 k) HT1.out (by unfold maxLen; omega) (by omega) S0.hB ?_; intro v1 w1 hown1 hgrow1 _; refine Hid.out ?_))
    have S1 := S0.next (Below.refl _ _) hown1 hgrow1
    clear hown1 hgrow1
    refine Lib.hid ?_
    go_wp2_with (at_builtin; go_must (refine wpList_append_own _ rfl (.tmp 63) (.tmp 64) 22 rfl B 5 i0 (.int .u8 0) 1 1 Tryd.underlying22 hi hz0 hz1 hz2 rfl (by decide) _ _ _ rfl (S1.own.alloc _) ⟨w1.heap.size, 0, none⟩ 1 1 [.int .u8 46] rfl rfl (one_cells w1 _ _) (by intro x hx; simp at hx; subst hx; rfl) (by unfold maxLen; omega) (by omega) (by have := S1.hB; simp; omega) ?_; intro v2 w2 hown2 hgrow2 _; refine Hid.out ?_))
    have S2 := S1.next ((Below.refl _ _).alloc (Nat.le_refl _) _) hown2 hgrow2
    clear hown2 hgrow2
    refine Lib.hid ?_
    go_wp2_with (at_builtin; go_must (refine wpList_append_own _ rfl (.tmp 66) (.tmp 71) 22 rfl B 5 i0 (.int .u8 0) 1 1 Tryd.underlying22 hi hz0 hz1 hz2 rfl (by decide) _ _ _ rfl S2.own ⟨g, k, none⟩ (nDigits u - k) (20 - k) ((digs u).drop k) rfl HDL.out (S2.drop_cells h20 k) HD1.out (by unfold maxLen; omega) (by omega) S2.hB ?_; intro v3 w3 hown3 hgrow3 _; refine Hid.out ?_))
    have S3 := S2.next (Below.refl _ _) hown3 hgrow3
    clear hown3 hgrow3
    refine Lib.hid ?_
    go_wp2
    go_ret
    refine ⟨v3, rfl, owns_eq S3.own ?_ ?_, S3.bel⟩
    · rw [HBody.out]; simp only [List.length_append, HTL.out, HDL.out, List.length_cons, List.length_nil]; omega
    · rw [HBody.out]; simp only [List.append_assoc]
  by_cases c3 : e < 0 ∧ -(nDigits u : Int) - 6 ≤ e
  · obtain ⟨k, HK⟩ : ∃ k : Nat, Hid (-e - (nDigits u : Int) = (k : Int)) := ⟨(-e - (nDigits u : Int)).toNat, by show _ = _; omega⟩
    have hk := HK.out
    obtain ⟨hzc, hzn⟩ := zstr_cells k (by omega)
    have HZC := Lib.hid hzc
    have HZN := Lib.hid hzn
    have HBody : Hid (body u e = [.int .u8 48, .int .u8 46] ++ zs k ++ digs u) := by show _ = _; unfold body; rw [if_neg c1, if_neg c2, if_pos c3, hk, Int.toNat_natCast]
    have hzl : Hid ((zs k).length = k) := by show _ = _; simp [zs]
    have hs3 := run_str_h k (-e - (nDigits u : Int)) hk (by omega)
    have k6 : k ≤ 6 := by omega
    clear hzc hzn hk
    obtain ⟨c3a, c3b⟩ := c3
    have d1 : decide (0 ≤ e) = false := by simp; omega
    have d2 : e ≤ -(nDigits u : Int) := by omega
    have HP : Hid (strCells (⟨#[48, 46]⟩ : ByteArray) = [.int .u8 48, .int .u8 46]) := by show _ = _; kernel_rfl
    have HPN : Hid ((⟨#[48, 46]⟩ : ByteArray).size = 2) := by show _ = _; kernel_rfl
    clear c1 c2
    go_wp2_with (at_builtin; go_must (refine Lib.wpList_append_own_string _ rfl (.tmp 83) (.const (.string ⟨#[48, 46]⟩)) 22 9 rfl B 5 i0 Tryd.underlying22 Tryd.underlying9 hi hz0 hz1 hz2 _ _ _ rfl S0.own (⟨#[48, 46]⟩ : ByteArray) rfl (by rw [HPN.out]; unfold maxLen; omega) (by rw [HPN.out]; omega) S0.hB ?_; intro v1 w1 hown1 hgrow1 _; refine Hid.out ?_))
    have S1 := S0.next (Below.refl _ _) hown1 hgrow1
    clear hown1 hgrow1
    refine Lib.hid ?_
    rw [HPN.out, HP.out] at S1
    go_wp2_with (at_builtin; go_must (refine Lib.wpList_append_own_string _ rfl (.tmp 85) (.tmp 90) 22 9 rfl B 5 i0 Tryd.underlying22 Tryd.underlying9 hi hz0 hz1 hz2 _ _ _ rfl S1.own ((⟨#[48, 48, 48, 48, 48, 48]⟩ : ByteArray).extract 0 k) rfl (by rw [HZN.out]; unfold maxLen; omega) (by rw [HZN.out]; omega) S1.hB ?_; intro v2 w2 hown2 hgrow2 _; refine Hid.out ?_))
    have S2 := S1.next (Below.refl _ _) hown2 hgrow2
    clear hown2 hgrow2
    refine Lib.hid ?_
    rw [HZN.out, HZC.out] at S2
    go_wp2_with (at_builtin; go_must (refine wpList_append_own _ rfl (.tmp 92) (.tmp 93) 22 rfl B 5 i0 (.int .u8 0) 1 1 Tryd.underlying22 hi hz0 hz1 hz2 rfl (by decide) _ _ _ rfl S2.own ⟨g, 0, none⟩ (nDigits u) 20 (digs u) rfl (by rw [digs_length]; omega) (S2.digs_cells h20) (digs_one u) (by unfold maxLen; omega) (by omega) S2.hB ?_; intro v3 w3 hown3 hgrow3 _; refine Hid.out ?_))
    have S3 := S2.next (Below.refl _ _) hown3 hgrow3
    clear hown3 hgrow3
    refine Lib.hid ?_
    go_wp2
    go_ret
    refine ⟨v3, rfl, owns_eq S3.own ?_ ?_, S3.bel⟩
    · rw [HBody.out]; simp only [List.length_append, digs_length, hzl.out, List.length_cons, List.length_nil]; omega
    · rw [HBody.out]; simp only [List.append_assoc]
  have HBody : Hid (body u e = digs u ++ [.int .u8 101] ++ byteCells (itoa e)) := by show _ = _; unfold body; rw [if_neg c1, if_neg c2, if_neg c3]
  have hil := Lib.itoa_length_le e he1 he2
  by_cases c4 : 6 < e
  · have d2 : decide (e < 0) = false := by simp; omega
    clear c1 c2 c3
    go_wp2_with (at_builtin; go_must (refine wpList_append_own _ rfl (.tmp 95) (.tmp 96) 22 rfl B 5 i0 (.int .u8 0) 1 1 Tryd.underlying22 hi hz0 hz1 hz2 rfl (by decide) _ _ _ rfl S0.own ⟨g, 0, none⟩ (nDigits u) 20 (digs u) rfl (by rw [digs_length]; omega) (S0.digs_cells h20) (digs_one u) (by unfold maxLen; omega) (by omega) S0.hB ?_; intro v1 w1 hown1 hgrow1 _; refine Hid.out ?_))
    have S1 := S0.next (Below.refl _ _) hown1 hgrow1
    clear hown1 hgrow1
    refine Lib.hid ?_
    go_wp2_with (at_builtin; go_must (refine wpList_append_own _ rfl (.tmp 98) (.tmp 99) 22 rfl B 5 i0 (.int .u8 0) 1 1 Tryd.underlying22 hi hz0 hz1 hz2 rfl (by decide) _ _ _ rfl (S1.own.alloc _) ⟨w1.heap.size, 0, none⟩ 1 1 [.int .u8 101] rfl rfl (one_cells w1 _ _) (by intro x hx; simp at hx; subst hx; rfl) (by unfold maxLen; omega) (by omega) (by have := S1.hB; simp; omega) ?_; intro v2 w2 hown2 hgrow2 _; refine Hid.out ?_))
    have S2 := S1.next ((Below.refl _ _).alloc (Nat.le_refl _) _) hown2 hgrow2
    clear hown2 hgrow2
    refine Lib.hid ?_
    go_wp2_with (go_at_call 15; go_must (refine (Tryd.strconv_AppendInt_10 B _ e he1 he2 v2 _ w2 S2.own S2.hB (by omega) (HT.out.on S2.bel)).mono ?_; rintro r w3 ⟨v3, rfl, hown3, hb3, _⟩; refine Hid.out ?_))
    have HO3 := Lib.hid hown3
    clear hown3
    refine Lib.hid ?_
    go_wp2
    go_ret
    refine ⟨v3, rfl, owns_eq HO3.out ?_ ?_, S2.bel.trans hb3⟩
    · rw [HBody.out]; simp only [List.length_append, digs_length, byteCells_length, List.length_cons, List.length_nil]; omega
    · rw [HBody.out]; simp only [List.append_assoc]
  · have d1 : decide (0 ≤ e) = false := by simp; omega
    have d2 : e < 0 := by omega
    have d3 : e < -(nDigits u : Int) - 6 := by omega
    have d4 : e ≤ -(nDigits u : Int) := by omega
    clear c1 c2 c3
    go_wp2_with (at_builtin; go_must (refine wpList_append_own _ rfl (.tmp 95) (.tmp 96) 22 rfl B 5 i0 (.int .u8 0) 1 1 Tryd.underlying22 hi hz0 hz1 hz2 rfl (by decide) _ _ _ rfl S0.own ⟨g, 0, none⟩ (nDigits u) 20 (digs u) rfl (by rw [digs_length]; omega) (S0.digs_cells h20) (digs_one u) (by unfold maxLen; omega) (by omega) S0.hB ?_; intro v1 w1 hown1 hgrow1 _; refine Hid.out ?_))
    have S1 := S0.next (Below.refl _ _) hown1 hgrow1
    clear hown1 hgrow1
    refine Lib.hid ?_
    go_wp2_with (at_builtin; go_must (refine wpList_append_own _ rfl (.tmp 98) (.tmp 99) 22 rfl B 5 i0 (.int .u8 0) 1 1 Tryd.underlying22 hi hz0 hz1 hz2 rfl (by decide) _ _ _ rfl (S1.own.alloc _) ⟨w1.heap.size, 0, none⟩ 1 1 [.int .u8 101] rfl rfl (one_cells w1 _ _) (by intro x hx; simp at hx; subst hx; rfl) (by unfold maxLen; omega) (by omega) (by have := S1.hB; simp; omega) ?_; intro v2 w2 hown2 hgrow2 _; refine Hid.out ?_))
    have S2 := S1.next ((Below.refl _ _).alloc (Nat.le_refl _) _) hown2 hgrow2
    clear hown2 hgrow2
    refine Lib.hid ?_
    go_wp2_with (go_at_call 15; go_must (refine (Tryd.strconv_AppendInt_10 B _ e he1 he2 v2 _ w2 S2.own S2.hB (by omega) (HT.out.on S2.bel)).mono ?_; rintro r w3 ⟨v3, rfl, hown3, hb3, _⟩; refine Hid.out ?_))
    have HO3 := Lib.hid hown3
    clear hown3
    refine Lib.hid ?_
    go_wp2
    go_ret
    refine ⟨v3, rfl, owns_eq HO3.out ?_ ?_, S2.bel.trans hb3⟩
    · rw [HBody.out]; simp only [List.length_append, digs_length, byteCells_length, List.length_cons, List.length_nil]; omega
    · rw [HBody.out]; simp only [List.append_assoc]
end Go.Proofs.Qxb6604222aDoor.Bufs
