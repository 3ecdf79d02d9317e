/-
  The walk of zzDecimalText, not negative.
-/
import Derived.Test.Qxb6604222aDoorPvWalks
namespace Go.Proofs.Qxb6604222aDoor.Bufs
open Go.RowKit Go.Sort Go.Lib Ints
set_option linter.unusedVariables false

theorem pvc_len (D : List Int) (e h : Int) (j : Nat) : (pvc D e h j).length ≤ 2 * j := by
  induction j with
  | zero => simp [pvc, Pv.pv]
  | succ j ih =>
    unfold pvc at *
    rw [Pv.pv_succ]
    rw [List.length_map] at *
    split <;> simp only [List.length_append, List.length_cons, List.length_nil] <;> omega

theorem Tx.cast {B : Nat} {w W : World} {gd : Nat} {D : List Int} {v : Value} {n n' : Nat} {xs xs' : List Value} (S : Tx B w W gd D v n xs) (hn : n = n') (hx : xs = xs') : Tx B w W gd D v n' xs' := by
  subst hn hx; exact S

theorem Tx.keep {B : Nat} {w W W' : World} {gd : Nat} {D : List Int} {v : Value} {n : Nat} {xs : List Value} (S : Tx B w W gd D v n xs) (hb : Below W.heap.size W W') : Tx B w W' gd D v n xs :=
  ⟨owns_below S.own hb, by rw [hb.block gd (lt_of_heap S.buf)]; exact S.buf, S.ne, S.bel.trans (hb.mono S.hB), Nat.le_trans S.hB hb.size⟩

theorem neg_one (u : Int) (n : Nat) : ∀ v ∈ ([.int .u8 45] ++ decCells u n : List Value), v.oneCell' = true := by
  intro v hv
  rcases List.mem_append.1 hv with h | h
  · simp at h; subst h; rfl
  · exact Ints.decCells_one _ _ v h

set_option maxHeartbeats 8000000 in
theorem decText_pos (u : Nat) (e : Int) (hu : u ≤ 9223372036854775807) (he1 : -9223372036854775808 ≤ e) (he2 : e ≤ 9223372036854775807) (w : World) :
    Calls Tryd.prog 8 #[.int .i64 u, .int .i64 e] w fun r w' => ∃ v', r = .returned v' ∧ w'.ownsRow w.heap.size 5 1 v' (body u e).length (body u e) ∧ Below w.heap.size w w' := by
  obtain ⟨i0, hi, hz0, hz1, hz2⟩ := info_parts Ints.dec_info5
  go_enter Tryd.func8, Tryd.ntmps8
  go_wp2_with fail
  refine (decUint_any (u : Int) _ (by omega) (by omega)).mono ?_
  rintro r W0 ⟨n, hw, rfl, hg, hb⟩
  have T0 : Tx w.heap.size w W0 (w.heap.size + 1) (decs u n) (.slice none 0 0) 0 [] := ⟨World.ownsRow_nil _ _ _ _, hg, by simp [Value.ownBlock], hb, hb.size⟩
  obtain ⟨gd, HG⟩ : ∃ gd, Hid (gd = w.heap.size + 1) := ⟨_, rfl⟩
  rw [← HG.out] at T0 ⊢
  clear hg hb
  have n1 := hw.lo
  have n2 := hw.hi
  by_cases c1 : 0 ≤ e
  · by_cases c2 : e ≤ 6
    · obtain ⟨h, Hh⟩ : ∃ h : Nat, Hid ((n : Int) - 1 + e = (h : Int)) := ⟨((n : Int) - 1 + e).toNat, by show _ = _; omega⟩
      have hh := Hh.out
      by_cases c3 : e ≤ 0
      · go_wp2_with fail
        go_loopw [5, 13] (fun v k wr => ∃ j : Nat, j ≤ (h + 1 + 0) ∧ k = .int .i64 ((h : Int) - (j : Int)) ∧ Tx w.heap.size w wr gd (decs u n) v ((pvc (decs u n) e (h : Int) j).length) (pvc (decs u n) e (h : Int) j)) (fun _ k _ => (RowKit.intOf k + 40).toNat)
        case atStart => exact ⟨0, Nat.zero_le _, by go_num, by rw [pvc_zero]; exact T0.cast (by simp) (by simp)⟩
        case round =>
          obtain ⟨j, hj, rfl, T⟩ := hrel
          have hpl := pvc_len (decs u n) e (h : Int) j
          by_cases hlt : j < (h + 1 + 0)
          · by_cases hz : ((h : Int) - (j : Int)) = 0
            · have HE0 := pvc_dot (decs u n) e (h : Int) j (by omega)
              have HE := Lib.hid HE0
              have hzb : (((h : Int) - (j : Int)) == 0) = true := by simpa using hz
              have hz1' : ((h : Int) - (j : Int)) ≤ 0 := by omega
              have hz2' : 0 ≤ ((h : Int) - (j : Int)) := by omega
              clear hz HE0
              go_wp2_with (go_at_call 13; go_must (refine (digitAt_any gd n n (decs u n) e ((h : Int) - (j : Int)) wr (decs_length _ _) n2 (by omega) (by omega) (by omega) (by omega) T.cells).mono ?_; rintro r wz ⟨rfl, hwz⟩; obtain rfl := hwz.symm; clear hwz; refine Hid.out ?_))
              refine Lib.hid ?_
              go_wp2_with (at_builtin; go_must (refine wpList_append_lies _ rfl (.tmp 69) (.tmp 74) 22 rfl w.heap.size 5 i0 (.int .u8 0) 1 1 Tryd.underlying22 hi hz0 hz1 hz2 rfl (by decide) _ _ _ rfl (T.own.alloc _) ⟨wr.heap.size, 0, none⟩ 1 1 [.int .u8 (Pv.dAt 48 (decs u n) e ((h : Int) - (j : Int)))] rfl rfl (one_cells wr _ _) (by intro x hx; simp at hx; subst hx; rfl) (by omega) (by unfold maxLen; omega) (by omega) (by have := T.hB; simp; omega) _ rfl ?_; intro g1 cap1 w1 hown1 hgrow1 hat1 _; refine Hid.out ?_))
              have T1 := T.next ((Below.refl _ _).alloc (Nat.le_refl _) _) hown1 hgrow1 hat1
              clear hown1 hgrow1 hat1
              refine Lib.hid ?_
              go_wp2_with (at_builtin; go_must (refine wpList_append_lies _ rfl (.tmp 78) (.tmp 79) 22 rfl w.heap.size 5 i0 (.int .u8 0) 1 1 Tryd.underlying22 hi hz0 hz1 hz2 rfl (by decide) _ _ _ rfl (T1.own.alloc _) ⟨w1.heap.size, 0, none⟩ 1 1 [.int .u8 46] rfl rfl (one_cells w1 _ _) (by intro x hx; simp at hx; subst hx; rfl) (by omega) (by unfold maxLen; omega) (by omega) (by have := T1.hB; simp; omega) _ rfl ?_; intro g2 cap2 w2 hown2 hgrow2 hat2 _; refine Hid.out ?_))
              have T2 := T1.next ((Below.refl _ _).alloc (Nat.le_refl _) _) hown2 hgrow2 hat2
              clear hown2 hgrow2 hat2
              refine Lib.hid ?_
              have T3 := T2.cast (n' := (pvc (decs u n) e (h : Int) (j + 1)).length) (xs' := pvc (decs u n) e (h : Int) (j + 1)) (by rw [HE.out]; simp only [List.length_append, List.length_cons, List.length_nil]; try omega) (by rw [HE.out]; try simp only [List.append_assoc])
              clear T T1 T2
              go_wp2
              go_roundw
              case rel => exact ⟨j + 1, by omega, by go_num, T3⟩
              case measure => simp [RowKit.intOf]; omega
            · have HE0 := pvc_plain (decs u n) e (h : Int) j (by omega)
              have HE := Lib.hid HE0
              have hzb : (((h : Int) - (j : Int)) == 0) = false := by simpa using hz
              clear hz HE0
              go_wp2_with (go_at_call 13; go_must (refine (digitAt_any gd n n (decs u n) e ((h : Int) - (j : Int)) wr (decs_length _ _) n2 (by omega) (by omega) (by omega) (by omega) T.cells).mono ?_; rintro r wz ⟨rfl, hwz⟩; obtain rfl := hwz.symm; clear hwz; refine Hid.out ?_))
              refine Lib.hid ?_
              go_wp2_with (at_builtin; go_must (refine wpList_append_lies _ rfl (.tmp 69) (.tmp 74) 22 rfl w.heap.size 5 i0 (.int .u8 0) 1 1 Tryd.underlying22 hi hz0 hz1 hz2 rfl (by decide) _ _ _ rfl (T.own.alloc _) ⟨wr.heap.size, 0, none⟩ 1 1 [.int .u8 (Pv.dAt 48 (decs u n) e ((h : Int) - (j : Int)))] rfl rfl (one_cells wr _ _) (by intro x hx; simp at hx; subst hx; rfl) (by omega) (by unfold maxLen; omega) (by omega) (by have := T.hB; simp; omega) _ rfl ?_; intro g1 cap1 w1 hown1 hgrow1 hat1 _; refine Hid.out ?_))
              have T1 := T.next ((Below.refl _ _).alloc (Nat.le_refl _) _) hown1 hgrow1 hat1
              clear hown1 hgrow1 hat1
              refine Lib.hid ?_
              have T3 := T1.cast (n' := (pvc (decs u n) e (h : Int) (j + 1)).length) (xs' := pvc (decs u n) e (h : Int) (j + 1)) (by rw [HE.out]; simp only [List.length_append, List.length_cons, List.length_nil]; try omega) (by rw [HE.out]; try simp only [List.append_assoc])
              clear T T1
              go_wp2
              go_roundw
              case rel => exact ⟨j + 1, by omega, by go_num, T3⟩
              case measure => simp [RowKit.intOf]; omega
          · have ej : j = (h + 1 + 0) := by omega
            clear hlt
            go_wp2
            go_ret
            exact ⟨_, rfl, owns_eq T.own (by rw [ej, body1 u n e h hw c1 c2 Hh.out]) (by rw [ej, body1 u n e h hw c1 c2 Hh.out]; try rfl), T.bel⟩
      · go_wp2_with fail
        go_loopw [5, 13] (fun v k wr => ∃ j : Nat, j ≤ (h + 1 + 0) ∧ k = .int .i64 ((h : Int) - (j : Int)) ∧ Tx w.heap.size w wr gd (decs u n) v ((pvc (decs u n) e (h : Int) j).length) (pvc (decs u n) e (h : Int) j)) (fun _ k _ => (RowKit.intOf k + 40).toNat)
        case atStart => exact ⟨0, Nat.zero_le _, by go_num, by rw [pvc_zero]; exact T0.cast (by simp) (by simp)⟩
        case round =>
          obtain ⟨j, hj, rfl, T⟩ := hrel
          have hpl := pvc_len (decs u n) e (h : Int) j
          by_cases hlt : j < (h + 1 + 0)
          · by_cases hz : ((h : Int) - (j : Int)) = 0
            · have HE0 := pvc_dot (decs u n) e (h : Int) j (by omega)
              have HE := Lib.hid HE0
              have hzb : (((h : Int) - (j : Int)) == 0) = true := by simpa using hz
              have hz1' : ((h : Int) - (j : Int)) ≤ 0 := by omega
              have hz2' : 0 ≤ ((h : Int) - (j : Int)) := by omega
              clear hz HE0
              go_wp2_with (go_at_call 13; go_must (refine (digitAt_any gd n n (decs u n) e ((h : Int) - (j : Int)) wr (decs_length _ _) n2 (by omega) (by omega) (by omega) (by omega) T.cells).mono ?_; rintro r wz ⟨rfl, hwz⟩; obtain rfl := hwz.symm; clear hwz; refine Hid.out ?_))
              refine Lib.hid ?_
              go_wp2_with (at_builtin; go_must (refine wpList_append_lies _ rfl (.tmp 69) (.tmp 74) 22 rfl w.heap.size 5 i0 (.int .u8 0) 1 1 Tryd.underlying22 hi hz0 hz1 hz2 rfl (by decide) _ _ _ rfl (T.own.alloc _) ⟨wr.heap.size, 0, none⟩ 1 1 [.int .u8 (Pv.dAt 48 (decs u n) e ((h : Int) - (j : Int)))] rfl rfl (one_cells wr _ _) (by intro x hx; simp at hx; subst hx; rfl) (by omega) (by unfold maxLen; omega) (by omega) (by have := T.hB; simp; omega) _ rfl ?_; intro g1 cap1 w1 hown1 hgrow1 hat1 _; refine Hid.out ?_))
              have T1 := T.next ((Below.refl _ _).alloc (Nat.le_refl _) _) hown1 hgrow1 hat1
              clear hown1 hgrow1 hat1
              refine Lib.hid ?_
              go_wp2_with (at_builtin; go_must (refine wpList_append_lies _ rfl (.tmp 78) (.tmp 79) 22 rfl w.heap.size 5 i0 (.int .u8 0) 1 1 Tryd.underlying22 hi hz0 hz1 hz2 rfl (by decide) _ _ _ rfl (T1.own.alloc _) ⟨w1.heap.size, 0, none⟩ 1 1 [.int .u8 46] rfl rfl (one_cells w1 _ _) (by intro x hx; simp at hx; subst hx; rfl) (by omega) (by unfold maxLen; omega) (by omega) (by have := T1.hB; simp; omega) _ rfl ?_; intro g2 cap2 w2 hown2 hgrow2 hat2 _; refine Hid.out ?_))
              have T2 := T1.next ((Below.refl _ _).alloc (Nat.le_refl _) _) hown2 hgrow2 hat2
              clear hown2 hgrow2 hat2
              refine Lib.hid ?_
              have T3 := T2.cast (n' := (pvc (decs u n) e (h : Int) (j + 1)).length) (xs' := pvc (decs u n) e (h : Int) (j + 1)) (by rw [HE.out]; simp only [List.length_append, List.length_cons, List.length_nil]; try omega) (by rw [HE.out]; try simp only [List.append_assoc])
              clear T T1 T2
              go_wp2
              go_roundw
              case rel => exact ⟨j + 1, by omega, by go_num, T3⟩
              case measure => simp [RowKit.intOf]; omega
            · have HE0 := pvc_plain (decs u n) e (h : Int) j (by omega)
              have HE := Lib.hid HE0
              have hzb : (((h : Int) - (j : Int)) == 0) = false := by simpa using hz
              clear hz HE0
              go_wp2_with (go_at_call 13; go_must (refine (digitAt_any gd n n (decs u n) e ((h : Int) - (j : Int)) wr (decs_length _ _) n2 (by omega) (by omega) (by omega) (by omega) T.cells).mono ?_; rintro r wz ⟨rfl, hwz⟩; obtain rfl := hwz.symm; clear hwz; refine Hid.out ?_))
              refine Lib.hid ?_
              go_wp2_with (at_builtin; go_must (refine wpList_append_lies _ rfl (.tmp 69) (.tmp 74) 22 rfl w.heap.size 5 i0 (.int .u8 0) 1 1 Tryd.underlying22 hi hz0 hz1 hz2 rfl (by decide) _ _ _ rfl (T.own.alloc _) ⟨wr.heap.size, 0, none⟩ 1 1 [.int .u8 (Pv.dAt 48 (decs u n) e ((h : Int) - (j : Int)))] rfl rfl (one_cells wr _ _) (by intro x hx; simp at hx; subst hx; rfl) (by omega) (by unfold maxLen; omega) (by omega) (by have := T.hB; simp; omega) _ rfl ?_; intro g1 cap1 w1 hown1 hgrow1 hat1 _; refine Hid.out ?_))
              have T1 := T.next ((Below.refl _ _).alloc (Nat.le_refl _) _) hown1 hgrow1 hat1
              clear hown1 hgrow1 hat1
              refine Lib.hid ?_
              have T3 := T1.cast (n' := (pvc (decs u n) e (h : Int) (j + 1)).length) (xs' := pvc (decs u n) e (h : Int) (j + 1)) (by rw [HE.out]; simp only [List.length_append, List.length_cons, List.length_nil]; try omega) (by rw [HE.out]; try simp only [List.append_assoc])
              clear T T1
              go_wp2
              go_roundw
              case rel => exact ⟨j + 1, by omega, by go_num, T3⟩
              case measure => simp [RowKit.intOf]; omega
          · have ej : j = (h + 1 + 0) := by omega
            clear hlt
            go_wp2
            go_ret
            exact ⟨_, rfl, owns_eq T.own (by rw [ej, body1 u n e h hw c1 c2 Hh.out]) (by rw [ej, body1 u n e h hw c1 c2 Hh.out]; try rfl), T.bel⟩
    · have HBody := Lib.hid (body4 u n e hw (.inl (by omega)))
      have d2 : decide (e ≤ 6) = false := by simp; omega
      go_wp2_with (at_builtin; go_must (refine wpList_append_lies _ rfl (.tmp 44) (.tmp 45) 22 rfl w.heap.size 5 i0 (.int .u8 0) 1 1 Tryd.underlying22 hi hz0 hz1 hz2 rfl (by decide) _ _ _ rfl T0.own ⟨gd, 0, none⟩ n n ((decs u n).map (Value.int .u8)) rfl (by rw [List.length_map, decs_length]; omega) T0.src (map_one _) (by omega) (by unfold maxLen; omega) (by omega) T0.hB _ rfl ?_; intro g1 cap1 w1 hown1 hgrow1 hat1 _; refine Hid.out ?_))
      have T1 := T0.next (Below.refl _ _) hown1 hgrow1 hat1
      clear hown1 hgrow1 hat1
      refine Lib.hid ?_
      rw [Nat.zero_add] at T1
      go_wp2_with (at_builtin; go_must (refine wpList_append_lies _ rfl (.tmp 47) (.tmp 48) 22 rfl w.heap.size 5 i0 (.int .u8 0) 1 1 Tryd.underlying22 hi hz0 hz1 hz2 rfl (by decide) _ _ _ rfl (T1.own.alloc _) ⟨w1.heap.size, 0, none⟩ 1 1 [.int .u8 101] rfl rfl (one_cells w1 _ _) (by intro x hx; simp at hx; subst hx; rfl) (by omega) (by unfold maxLen; omega) (by omega) (by have := T1.hB; simp; omega) _ rfl ?_; intro g2 cap2 w2 hown2 hgrow2 hat2 _; refine Hid.out ?_))
      have T2 := T1.next ((Below.refl _ _).alloc (Nat.le_refl _) _) hown2 hgrow2 hat2
      clear hown2 hgrow2 hat2
      refine Lib.hid ?_
      go_wp2_with (go_at_call 12; go_must (refine (decInt64_pos e _ (by omega) (by omega)).mono ?_; rintro r w3 ⟨m, v3, hwm, rfl, hown3, hb3⟩; refine Hid.out ?_))
      have hm1 := hwm.lo
      have hm2 := hwm.hi
      obtain ⟨g3, cap3, hv3, _, _⟩ := hown3.form (by omega)
      subst hv3
      have HN3 := Lib.hid (hown3.cells (g := g3) rfl)
      have HI : Hid (byteCells (itoa e) = decCells e m) := itoa_pos e m (by omega) hwm
      have T3 := T2.keep hb3
      clear hown3 hb3 T0 T1 T2
      refine Lib.hid ?_
      go_wp2_with (at_builtin; go_must (refine wpList_append_lies _ rfl (.tmp 50) (.tmp 52) 22 rfl w.heap.size 5 i0 (.int .u8 0) 1 1 Tryd.underlying22 hi hz0 hz1 hz2 rfl (by decide) _ _ _ rfl T3.own ⟨g3, 0, none⟩ m cap3 (decCells e m) rfl (by rw [Ints.decCells_length]; omega) HN3.out (Ints.decCells_one _ _) (by omega) (by unfold maxLen; omega) (by omega) T3.hB _ rfl ?_; intro g4 cap4 w4 hown4 hgrow4 hat4 _; refine Hid.out ?_))
      have T4 := T3.next (Below.refl _ _) hown4 hgrow4 hat4
      clear hown4 hgrow4 hat4
      refine Lib.hid ?_
      go_wp2
      go_ret
      refine ⟨_, rfl, owns_eq T4.own ?_ ?_, T4.bel⟩
      · rw [HBody.out, HI.out]; simp only [List.length_append, Ints.decCells_length, List.length_cons, List.length_nil]; try omega
      · rw [HBody.out, HI.out]; simp only [List.append_assoc]; rfl
  · by_cases c2 : 0 < (n : Int) + e
    · obtain ⟨h, Hh⟩ : ∃ h : Nat, Hid ((n : Int) - 1 + e = (h : Int)) := ⟨((n : Int) - 1 + e).toNat, by show _ = _; omega⟩
      obtain ⟨i, Hi⟩ : ∃ i : Nat, Hid (-e = (i : Int)) := ⟨(-e).toNat, by show _ = _; omega⟩
      have hh := Hh.out
      have hi1 : -e ≤ (i : Int) := Int.le_of_eq Hi.out
      have hi2 : (i : Int) ≤ -e := Int.le_of_eq Hi.out.symm
      go_wp2_with fail
      go_loopw [5, 13] (fun v k wr => ∃ j : Nat, j ≤ (h + 1 + i) ∧ k = .int .i64 ((h : Int) - (j : Int)) ∧ Tx w.heap.size w wr gd (decs u n) v ((pvc (decs u n) e (h : Int) j).length) (pvc (decs u n) e (h : Int) j)) (fun _ k _ => (RowKit.intOf k + 40).toNat)
      case atStart => exact ⟨0, Nat.zero_le _, by go_num, by rw [pvc_zero]; exact T0.cast (by simp) (by simp)⟩
      case round =>
        obtain ⟨j, hj, rfl, T⟩ := hrel
        have hpl := pvc_len (decs u n) e (h : Int) j
        by_cases hlt : j < (h + 1 + i)
        · by_cases hz : ((h : Int) - (j : Int)) = 0
          · have HE0 := pvc_dot (decs u n) e (h : Int) j (by omega)
            have HE := Lib.hid HE0
            have hzb : (((h : Int) - (j : Int)) == 0) = true := by simpa using hz
            have hz1' : ((h : Int) - (j : Int)) ≤ 0 := by omega
            have hz2' : 0 ≤ ((h : Int) - (j : Int)) := by omega
            clear hz HE0
            go_wp2_with (go_at_call 13; go_must (refine (digitAt_any gd n n (decs u n) e ((h : Int) - (j : Int)) wr (decs_length _ _) n2 (by omega) (by omega) (by omega) (by omega) T.cells).mono ?_; rintro r wz ⟨rfl, hwz⟩; obtain rfl := hwz.symm; clear hwz; refine Hid.out ?_))
            refine Lib.hid ?_
            go_wp2_with (at_builtin; go_must (refine wpList_append_lies _ rfl (.tmp 69) (.tmp 74) 22 rfl w.heap.size 5 i0 (.int .u8 0) 1 1 Tryd.underlying22 hi hz0 hz1 hz2 rfl (by decide) _ _ _ rfl (T.own.alloc _) ⟨wr.heap.size, 0, none⟩ 1 1 [.int .u8 (Pv.dAt 48 (decs u n) e ((h : Int) - (j : Int)))] rfl rfl (one_cells wr _ _) (by intro x hx; simp at hx; subst hx; rfl) (by omega) (by unfold maxLen; omega) (by omega) (by have := T.hB; simp; omega) _ rfl ?_; intro g1 cap1 w1 hown1 hgrow1 hat1 _; refine Hid.out ?_))
            have T1 := T.next ((Below.refl _ _).alloc (Nat.le_refl _) _) hown1 hgrow1 hat1
            clear hown1 hgrow1 hat1
            refine Lib.hid ?_
            go_wp2_with (at_builtin; go_must (refine wpList_append_lies _ rfl (.tmp 78) (.tmp 79) 22 rfl w.heap.size 5 i0 (.int .u8 0) 1 1 Tryd.underlying22 hi hz0 hz1 hz2 rfl (by decide) _ _ _ rfl (T1.own.alloc _) ⟨w1.heap.size, 0, none⟩ 1 1 [.int .u8 46] rfl rfl (one_cells w1 _ _) (by intro x hx; simp at hx; subst hx; rfl) (by omega) (by unfold maxLen; omega) (by omega) (by have := T1.hB; simp; omega) _ rfl ?_; intro g2 cap2 w2 hown2 hgrow2 hat2 _; refine Hid.out ?_))
            have T2 := T1.next ((Below.refl _ _).alloc (Nat.le_refl _) _) hown2 hgrow2 hat2
            clear hown2 hgrow2 hat2
            refine Lib.hid ?_
            have T3 := T2.cast (n' := (pvc (decs u n) e (h : Int) (j + 1)).length) (xs' := pvc (decs u n) e (h : Int) (j + 1)) (by rw [HE.out]; simp only [List.length_append, List.length_cons, List.length_nil]; try omega) (by rw [HE.out]; try simp only [List.append_assoc])
            clear T T1 T2
            go_wp2
            go_roundw
            case rel => exact ⟨j + 1, by omega, by go_num, T3⟩
            case measure => simp [RowKit.intOf]; omega
          · have HE0 := pvc_plain (decs u n) e (h : Int) j (by omega)
            have HE := Lib.hid HE0
            have hzb : (((h : Int) - (j : Int)) == 0) = false := by simpa using hz
            clear hz HE0
            go_wp2_with (go_at_call 13; go_must (refine (digitAt_any gd n n (decs u n) e ((h : Int) - (j : Int)) wr (decs_length _ _) n2 (by omega) (by omega) (by omega) (by omega) T.cells).mono ?_; rintro r wz ⟨rfl, hwz⟩; obtain rfl := hwz.symm; clear hwz; refine Hid.out ?_))
            refine Lib.hid ?_
            go_wp2_with (at_builtin; go_must (refine wpList_append_lies _ rfl (.tmp 69) (.tmp 74) 22 rfl w.heap.size 5 i0 (.int .u8 0) 1 1 Tryd.underlying22 hi hz0 hz1 hz2 rfl (by decide) _ _ _ rfl (T.own.alloc _) ⟨wr.heap.size, 0, none⟩ 1 1 [.int .u8 (Pv.dAt 48 (decs u n) e ((h : Int) - (j : Int)))] rfl rfl (one_cells wr _ _) (by intro x hx; simp at hx; subst hx; rfl) (by omega) (by unfold maxLen; omega) (by omega) (by have := T.hB; simp; omega) _ rfl ?_; intro g1 cap1 w1 hown1 hgrow1 hat1 _; refine Hid.out ?_))
            have T1 := T.next ((Below.refl _ _).alloc (Nat.le_refl _) _) hown1 hgrow1 hat1
            clear hown1 hgrow1 hat1
            refine Lib.hid ?_
            have T3 := T1.cast (n' := (pvc (decs u n) e (h : Int) (j + 1)).length) (xs' := pvc (decs u n) e (h : Int) (j + 1)) (by rw [HE.out]; simp only [List.length_append, List.length_cons, List.length_nil]; try omega) (by rw [HE.out]; try simp only [List.append_assoc])
            clear T T1
            go_wp2
            go_roundw
            case rel => exact ⟨j + 1, by omega, by go_num, T3⟩
            case measure => simp [RowKit.intOf]; omega
        · have ej : j = (h + 1 + i) := by omega
          clear hlt
          go_wp2
          go_ret
          exact ⟨_, rfl, owns_eq T.own (by rw [ej, body2 u n e h i hw (by omega) c2 Hh.out Hi.out]) (by rw [ej, body2 u n e h i hw (by omega) c2 Hh.out Hi.out]; try rfl), T.bel⟩
    · have d1 : decide (0 < (n : Int) + e) = false := by simpa using c2
      by_cases c3 : -((n : Int) + e) ≤ 6
      · obtain ⟨i, Hi⟩ : ∃ i : Nat, Hid (-e = (i : Int)) := ⟨(-e).toNat, by show _ = _; omega⟩
        have hi1 : -e ≤ (i : Int) := Int.le_of_eq Hi.out
        have hi2 : (i : Int) ≤ -e := Int.le_of_eq Hi.out.symm
        have c4 : (n : Int) - 1 + e < 0 := by omega
        have HB3 : Hid (pvc (decs u n) e 0 (0 + 1 + i) = body u e) := body3 u n e i hw (by omega) (by omega) c3 Hi.out
        go_wp2_with fail
        go_loopw [5, 13] (fun v k wr => ∃ j : Nat, j ≤ (0 + 1 + i) ∧ k = .int .i64 (-(j : Int)) ∧ Tx w.heap.size w wr gd (decs u n) v ((pvc (decs u n) e (0 : Int) j).length) (pvc (decs u n) e (0 : Int) j)) (fun _ k _ => (RowKit.intOf k + 40).toNat)
        case atStart => exact ⟨0, Nat.zero_le _, by go_num, by rw [pvc_zero]; exact T0.cast (by simp) (by simp)⟩
        case round =>
          obtain ⟨j, hj, rfl, T⟩ := hrel
          have hpl := pvc_len (decs u n) e (0 : Int) j
          by_cases hlt : j < (0 + 1 + i)
          · by_cases hz : (-(j : Int)) = 0
            · have HE0 := pvc_dot (decs u n) e (0 : Int) j (by omega); simp only [Int.zero_sub] at HE0
              have HE := Lib.hid HE0
              have hzb : ((-(j : Int)) == 0) = true := by simpa using hz
              have hz1' : (-(j : Int)) ≤ 0 := by omega
              have hz2' : 0 ≤ (-(j : Int)) := by omega
              clear hz HE0
              go_wp2_with (go_at_call 13; go_must (refine (digitAt_any gd n n (decs u n) e (-(j : Int)) wr (decs_length _ _) n2 (by omega) (by omega) (by omega) (by omega) T.cells).mono ?_; rintro r wz ⟨rfl, hwz⟩; obtain rfl := hwz.symm; clear hwz; refine Hid.out ?_))
              refine Lib.hid ?_
              go_wp2_with (at_builtin; go_must (refine wpList_append_lies _ rfl (.tmp 69) (.tmp 74) 22 rfl w.heap.size 5 i0 (.int .u8 0) 1 1 Tryd.underlying22 hi hz0 hz1 hz2 rfl (by decide) _ _ _ rfl (T.own.alloc _) ⟨wr.heap.size, 0, none⟩ 1 1 [.int .u8 (Pv.dAt 48 (decs u n) e (-(j : Int)))] rfl rfl (one_cells wr _ _) (by intro x hx; simp at hx; subst hx; rfl) (by omega) (by unfold maxLen; omega) (by omega) (by have := T.hB; simp; omega) _ rfl ?_; intro g1 cap1 w1 hown1 hgrow1 hat1 _; refine Hid.out ?_))
              have T1 := T.next ((Below.refl _ _).alloc (Nat.le_refl _) _) hown1 hgrow1 hat1
              clear hown1 hgrow1 hat1
              refine Lib.hid ?_
              go_wp2_with (at_builtin; go_must (refine wpList_append_lies _ rfl (.tmp 78) (.tmp 79) 22 rfl w.heap.size 5 i0 (.int .u8 0) 1 1 Tryd.underlying22 hi hz0 hz1 hz2 rfl (by decide) _ _ _ rfl (T1.own.alloc _) ⟨w1.heap.size, 0, none⟩ 1 1 [.int .u8 46] rfl rfl (one_cells w1 _ _) (by intro x hx; simp at hx; subst hx; rfl) (by omega) (by unfold maxLen; omega) (by omega) (by have := T1.hB; simp; omega) _ rfl ?_; intro g2 cap2 w2 hown2 hgrow2 hat2 _; refine Hid.out ?_))
              have T2 := T1.next ((Below.refl _ _).alloc (Nat.le_refl _) _) hown2 hgrow2 hat2
              clear hown2 hgrow2 hat2
              refine Lib.hid ?_
              have T3 := T2.cast (n' := (pvc (decs u n) e (0 : Int) (j + 1)).length) (xs' := pvc (decs u n) e (0 : Int) (j + 1)) (by rw [HE.out]; simp only [List.length_append, List.length_cons, List.length_nil]; try omega) (by rw [HE.out]; try simp only [List.append_assoc])
              clear T T1 T2
              go_wp2
              go_roundw
              case rel => exact ⟨j + 1, by omega, by go_num, T3⟩
              case measure => simp [RowKit.intOf]; omega
            · have HE0 := pvc_plain (decs u n) e (0 : Int) j (by omega); simp only [Int.zero_sub] at HE0
              have HE := Lib.hid HE0
              have hzb : ((-(j : Int)) == 0) = false := by simpa using hz
              clear hz HE0
              go_wp2_with (go_at_call 13; go_must (refine (digitAt_any gd n n (decs u n) e (-(j : Int)) wr (decs_length _ _) n2 (by omega) (by omega) (by omega) (by omega) T.cells).mono ?_; rintro r wz ⟨rfl, hwz⟩; obtain rfl := hwz.symm; clear hwz; refine Hid.out ?_))
              refine Lib.hid ?_
              go_wp2_with (at_builtin; go_must (refine wpList_append_lies _ rfl (.tmp 69) (.tmp 74) 22 rfl w.heap.size 5 i0 (.int .u8 0) 1 1 Tryd.underlying22 hi hz0 hz1 hz2 rfl (by decide) _ _ _ rfl (T.own.alloc _) ⟨wr.heap.size, 0, none⟩ 1 1 [.int .u8 (Pv.dAt 48 (decs u n) e (-(j : Int)))] rfl rfl (one_cells wr _ _) (by intro x hx; simp at hx; subst hx; rfl) (by omega) (by unfold maxLen; omega) (by omega) (by have := T.hB; simp; omega) _ rfl ?_; intro g1 cap1 w1 hown1 hgrow1 hat1 _; refine Hid.out ?_))
              have T1 := T.next ((Below.refl _ _).alloc (Nat.le_refl _) _) hown1 hgrow1 hat1
              clear hown1 hgrow1 hat1
              refine Lib.hid ?_
              have T3 := T1.cast (n' := (pvc (decs u n) e (0 : Int) (j + 1)).length) (xs' := pvc (decs u n) e (0 : Int) (j + 1)) (by rw [HE.out]; simp only [List.length_append, List.length_cons, List.length_nil]; try omega) (by rw [HE.out]; try simp only [List.append_assoc])
              clear T T1
              go_wp2
              go_roundw
              case rel => exact ⟨j + 1, by omega, by go_num, T3⟩
              case measure => simp [RowKit.intOf]; omega
          · have ej : j = (0 + 1 + i) := by omega
            clear hlt
            go_wp2
            go_ret
            exact ⟨_, rfl, owns_eq T.own (by rw [ej, HB3.out]) (by rw [ej, HB3.out]; try rfl), T.bel⟩
      · have HBody := Lib.hid (body4 u n e hw (.inr ⟨by omega, by omega⟩))
        have d2 : decide (-((n : Int) + e) ≤ 6) = false := by simp; omega
        go_wp2_with (at_builtin; go_must (refine wpList_append_lies _ rfl (.tmp 44) (.tmp 45) 22 rfl w.heap.size 5 i0 (.int .u8 0) 1 1 Tryd.underlying22 hi hz0 hz1 hz2 rfl (by decide) _ _ _ rfl T0.own ⟨gd, 0, none⟩ n n ((decs u n).map (Value.int .u8)) rfl (by rw [List.length_map, decs_length]; omega) T0.src (map_one _) (by omega) (by unfold maxLen; omega) (by omega) T0.hB _ rfl ?_; intro g1 cap1 w1 hown1 hgrow1 hat1 _; refine Hid.out ?_))
        have T1 := T0.next (Below.refl _ _) hown1 hgrow1 hat1
        clear hown1 hgrow1 hat1
        refine Lib.hid ?_
        rw [Nat.zero_add] at T1
        go_wp2_with (at_builtin; go_must (refine wpList_append_lies _ rfl (.tmp 47) (.tmp 48) 22 rfl w.heap.size 5 i0 (.int .u8 0) 1 1 Tryd.underlying22 hi hz0 hz1 hz2 rfl (by decide) _ _ _ rfl (T1.own.alloc _) ⟨w1.heap.size, 0, none⟩ 1 1 [.int .u8 101] rfl rfl (one_cells w1 _ _) (by intro x hx; simp at hx; subst hx; rfl) (by omega) (by unfold maxLen; omega) (by omega) (by have := T1.hB; simp; omega) _ rfl ?_; intro g2 cap2 w2 hown2 hgrow2 hat2 _; refine Hid.out ?_))
        have T2 := T1.next ((Below.refl _ _).alloc (Nat.le_refl _) _) hown2 hgrow2 hat2
        clear hown2 hgrow2 hat2
        refine Lib.hid ?_
        go_wp2_with (go_at_call 12; go_must (refine (decInt64_neg e _ (by omega) (by omega)).mono ?_; rintro r w3 ⟨m, v3, hwm, rfl, hown3, hb3⟩; refine Hid.out ?_))
        have hm1 := hwm.lo
        have hm2 := hwm.hi
        obtain ⟨g3, cap3, hv3, _, _⟩ := hown3.form (by omega)
        subst hv3
        have HN3 := Lib.hid (hown3.cells (g := g3) rfl)
        have HI : Hid (byteCells (itoa e) = [.int .u8 45] ++ decCells (-e) m) := itoa_neg e m (by omega) hwm
        have T3 := T2.keep hb3
        clear hown3 hb3 T0 T1 T2
        refine Lib.hid ?_
        go_wp2_with (at_builtin; go_must (refine wpList_append_lies _ rfl (.tmp 50) (.tmp 52) 22 rfl w.heap.size 5 i0 (.int .u8 0) 1 1 Tryd.underlying22 hi hz0 hz1 hz2 rfl (by decide) _ _ _ rfl T3.own ⟨g3, 0, none⟩ (1 + m) cap3 ([.int .u8 45] ++ decCells (-e) m) rfl (by rw [List.length_append, Ints.decCells_length]; simp only [List.length_cons, List.length_nil]; omega) HN3.out (neg_one _ _) (by omega) (by unfold maxLen; omega) (by omega) T3.hB _ rfl ?_; intro g4 cap4 w4 hown4 hgrow4 hat4 _; refine Hid.out ?_))
        have T4 := T3.next (Below.refl _ _) hown4 hgrow4 hat4
        clear hown4 hgrow4 hat4
        refine Lib.hid ?_
        go_wp2
        go_ret
        refine ⟨_, rfl, owns_eq T4.own ?_ ?_, T4.bel⟩
        · rw [HBody.out, HI.out]; simp only [List.length_append, Ints.decCells_length, List.length_cons, List.length_nil]; try omega
        · rw [HBody.out, HI.out]; simp only [List.append_assoc]; rfl
end Go.Proofs.Qxb6604222aDoor.Bufs
