/-
  The walk of finishLength at a long content.
-/
import Derived.Test.Qxb6604565aFin
namespace Go.Proofs.Qxb6604565a.Ber
open Go.ChangeShapes Go.WideShapes Go.ChangeAt Go.RowKit
set_option linter.unusedVariables false

theorem spliced (cur pre xc : List Value) (x0 : Value) (a n K N : Nat) (hN : N = a + 1 + n) (hpre : pre.length = a) (hxc : xc.length = n) (ht : cur.take N = pre ++ x0 :: xc) (hl : N + K ≤ cur.length) :
    ∃ y0 ys, ys.length = K ∧ (splice cur (a + 1 + K) xc).take (N + K) = pre ++ y0 :: (ys ++ xc) := by
  have h1 : (splice cur (a + 1 + K) xc).take (N + K) = cur.take (a + 1 + K) ++ xc := by
    unfold splice
    rw [← List.append_assoc, List.take_append_of_le_length (by simp; omega), List.take_of_length_le (by simp; omega)]
  have h2 : cur.take a = pre := by
    have : (cur.take N).take a = pre := by rw [ht, List.take_append_of_le_length (by omega), List.take_of_length_le (by omega)]
    rwa [List.take_take, Nat.min_eq_left (by omega)] at this
  have h3 : cur.take (a + 1 + K) = pre ++ (cur.drop a).take (K + 1) := by
    rw [← h2, ← List.take_append_drop a (cur.take (a + 1 + K)), List.take_take, Nat.min_eq_left (by omega), List.drop_take]
    congr 2
    omega
  have h4 : ((cur.drop a).take (K + 1)).length = K + 1 := by simp; omega
  match hy : (cur.drop a).take (K + 1), h4 with
  | y0 :: ys, h4 =>
    refine ⟨y0, ys, by simpa using h4, ?_⟩
    rw [h1, h3, hy]
    simp

theorem Row.drew {W : World} {B g cap : Nat} {cur : List Value} (h : Row W B g cap cur) : Row W.drew B g cap cur := ⟨h.blk, h.len, h.top, h.base⟩
theorem src_cells {W : World} {B g cap : Nat} {cur pre xc : List Value} {x0 : Value} {N A : Nat} (h : Row W B g cap cur) (ht : cur.take N = pre ++ x0 :: xc) (hA : A = pre.length + 1) : ∀ j v, xc[j]? = some v → W.cell? ((⟨g, A, none⟩ : Addr).add j) = some v := by
  intro j v hj
  have hadd : (⟨g, A, none⟩ : Addr).add j = ⟨g, A + j, none⟩ := by simp [Addr.add]
  rw [hadd, cell_of_row W g (A + j) cur.toArray 5 (0, 0) h.blk]
  have h1 : (cur.take N)[A + j]? = some v := by
    rw [ht, List.getElem?_append_right (by omega), show A + j - pre.length = j + 1 by omega]
    simpa using hj
  have h2 := h1
  rw [List.getElem?_take] at h2
  split at h2
  · simpa using h2
  · cases h2
theorem lay_step (pre T R xc : List Value) (d y u : Value) (j : Nat) (hj : j = pre.length + 1 + T.length) : (pre ++ d :: (T ++ (y :: R ++ xc))).set j u = pre ++ d :: (T ++ [u] ++ (R ++ xc)) := by
  have h := set_mid (pre ++ d :: T) (R ++ xc) y u j (by simp; omega)
  simp only [List.append_assoc, List.cons_append, List.nil_append] at h ⊢
  exact h
theorem wd_le3 {n : Int} {K : Nat} (h : Wd 256 n K) (h0 : 0 ≤ n) (h2 : n ≤ 16777215) : K ≤ 3 := by
  rcases h.full with e | e
  · omega
  · by_cases hk : K ≤ 3
    · exact hk
    · exact absurd (qAt_zero_le 256 n (by omega) 3 (K - 1) (by omega) (q256_3 n h0 h2)) e

theorem elem23 : Try.prog.elem 23 = 5 := by simp [Program.elem, Try.underlying23]
theorem run_cut_h (g l cap h : Nat) (hh : h ≤ cap) (w : World) :
    (Instr.slice 23 (.slice (some ⟨g, 0, none⟩) l cap) none (some (.int .i64 (h : Int))) none).run Try.prog w = .ok (.slice (some ⟨g, 0, none⟩) h cap) w := by
  rw [run_slice_h w 23 (some ⟨g, 0, none⟩) l cap (by rw [elem23]; exact Try.underlying23) .i64 (h : Int) (by omega) (by omega), elem23, run_size5]
  simp [Result.andThen, sliced, Addr.add]
theorem run_cut_l (g l cap k : Nat) (h2 : k < cap) (hl : k ≤ l) (h0 : k ≠ 0) (w : World) :
    (Instr.slice 23 (.slice (some ⟨g, 0, none⟩) l cap) (some (.int .i64 (k : Int))) none none).run Try.prog w = .ok (.slice (some ⟨g, k, none⟩) (l - k) (cap - k)) w := by
  rw [run_slice_l w 23 (some ⟨g, 0, none⟩) l cap (by rw [elem23]; exact Try.underlying23) .i64 (k : Int) (by omega) (by omega), elem23, run_size5]
  have h3 : cap ≠ k := by omega
  simp [Result.andThen, sliced, Addr.add, h0, h3]
theorem run_cut_lh (g l cap k h : Nat) (h2 : k < cap) (hl : k ≤ h) (hh : h ≤ cap) (h0 : k ≠ 0) (w : World) :
    (Instr.slice 23 (.slice (some ⟨g, 0, none⟩) l cap) (some (.int .i64 (k : Int))) (some (.int .i64 (h : Int))) none).run Try.prog w = .ok (.slice (some ⟨g, k, none⟩) (h - k) (cap - k)) w := by
  rw [run_slice_lh w 23 (some ⟨g, 0, none⟩) l cap (by rw [elem23]; exact Try.underlying23) .i64 .i64 (k : Int) (h : Int) (by omega) (by omega) (by omega), elem23, run_size5]
  have h3 : cap ≠ k := by omega
  simp [Result.andThen, sliced, Addr.add, h0, h3]
theorem or128K : ∀ K : Nat, K ≤ 3 → bits .or .u8 128 ((K : Nat) : Int) = 128 + (K : Int) := by
  intro K h
  rw [u8_or 128 (K : Int) (by omega) (by omega) (by omega) (by omega)]
  have : K = 0 ∨ K = 1 ∨ K = 2 ∨ K = 3 := by omega
  rcases this with rfl | rfl | rfl | rfl <;> rfl

set_option maxRecDepth 100000 in
set_option maxHeartbeats 1000000 in
theorem finish_big (a n N B g cap : Nat) (pre xc : List Value) (x0 : Value) (w : World) (hN : N = a + 1 + n) (hpre : pre.length = a) (hn1 : 128 ≤ n) (hn2 : n ≤ 1048576) (ha : a ≤ 2000000)
    (hown : w.ownsRow B 5 1 (.slice (some ⟨g, 0, none⟩) N cap) N (pre ++ x0 :: xc)) (hBw : B ≤ w.heap.size) (hx1 : ∀ v ∈ xc, v.oneCell' = true) :
    Calls Try.prog 20 #[.slice (some ⟨g, 0, none⟩) N cap, .int .i64 (a : Int)] w fun r w' => ∃ v' K, r = .returned v' ∧ Wd 256 n K ∧ w'.ownsRow B 5 1 v' (N + K) (pre ++ .int .u8 (128 + (K : Int)) :: (cells (b256 n K) ++ xc)) ∧ Below B w w' := by
  obtain ⟨cur, hR, hNc, htk, hlen⟩ := Row.of hown
  have e1 : (N : Int) - (a : Int) - 1 = (n : Int) := by omega
  have HR := Lib.hid hR
  have HTK := Lib.hid htk
  have HX1 := Lib.hid hx1
  have HXC : Hid (xc.length = n) := by show _ = _; simp at hlen; omega
  have HN := Lib.hid hN
  have bN : (N : Int) ≤ 4000000 := by omega
  have bN2 : (a : Int) + 129 ≤ (N : Int) := by omega
  clear hown htk hR hx1 hlen hN
  go_enter Try.func20, Try.ntmps20
  go_wp2_with (go_at_call 23; go_must (refine (lengthSize_any n _ hn1 hn2).mono ?_; rintro e w1 ⟨K, rfl, hW, hw1⟩; obtain rfl := hw1.symm; clear hw1; refine Hid.out ?_))
  have hK1 := hW.lo
  have hK3 : K ≤ 3 := wd_le3 hW (by omega) (by omega)
  have HW := Lib.hid hW
  clear hW
  refine Lib.hid ?_
  go_wp2_with (go_at_call 24; go_must (refine (grow_any _ B g N cap K cur HR.out hNc (by omega) hK1 hK3 hBw).mono ?_; rintro e w1 ⟨g1, cap1, cur1, rfl, hR1, hK1c, htk1, hb1⟩; refine Hid.out ?_))
  have hN := HN.out
  obtain ⟨y0, ys, hys, hsp⟩ := spliced cur1 pre xc x0 a n K N hN hpre HXC.out (htk1.trans HTK.out) (by rw [hR1.len]; exact hK1c)
  obtain ⟨M, hM⟩ : ∃ M, M = N + K := ⟨_, rfl⟩
  obtain ⟨A, hA⟩ : ∃ A, A = a + 1 := ⟨_, rfl⟩
  obtain ⟨R, hRr⟩ : ∃ R, R = a + 1 + K := ⟨_, rfl⟩
  have hcapm : cap1 ≤ 9223372036854775807 := by have := hR1.top; unfold maxLen at this; omega
  rw [← hM, ← hRr] at hsp
  have hs30 := run_cut_h g1 N cap1 M (by omega)
  have hs36 := run_cut_l g1 M cap1 R (by omega) (by omega) (by omega)
  have hs44 := run_cut_lh g1 M cap1 A N (by omega) (by omega) (by omega) (by omega)
  rw [show M - R = n by omega] at hs36
  rw [show N - A = n by omega] at hs44
  have eM : (N : Int) + (K : Int) = (M : Int) := by omega
  have eA : (a : Int) + 1 = (A : Int) := by omega
  have eR : (A : Int) + (K : Int) = (R : Int) := by omega
  have eN : (M : Int) - (K : Int) = (N : Int) := by omega
  have HSP := Lib.hid hsp
  have HYS := Lib.hid hys
  have HR1 := Lib.hid hR1
  have HB1 := Lib.hid hb1
  have HNN : Hid (N = a + 1 + n ∧ M = N + K ∧ A = a + 1 ∧ R = a + 1 + K) := ⟨hN, hM, hA, hRr⟩
  have HTK1 := Lib.hid (htk1.trans HTK.out)
  have HMc : Hid (M ≤ cap1) := by show _ ≤ _; omega
  have bM : (M : Int) ≤ 4000000 := by omega
  have bA : (A : Int) ≤ 4000000 := by omega
  have bR : (R : Int) ≤ 4000000 := by omega
  have haM : (a : Int) < (M : Int) := by omega
  have haMn : a < M := by omega
  clear hsp hys hR1 hb1 hN hM hA hRr htk1
  refine Lib.hid ?_
  go_wp2_with fail
  have hlenR := HR1.out.len
  have HRD := Lib.hid HR1.out.drew
  have HBD := Lib.hid HB1.out.drew
  have HSRC := Lib.hid (src_cells HRD.out HTK1.out (A := A) (by have := HNN.out; omega))
  have HFIT : Hid (R + xc.length ≤ cur1.length) := by show _ ≤ _; have := HNN.out; have := HXC.out; have := HMc.out; omega
  have HLN : Hid (xc.length = Nat.min n n) := by show _ = _; rw [HXC.out]; exact (Nat.min_self n).symm
  clear hlenR
  have wA : IntKind.i64.wrap (A : Int) = (A : Int) := by rw [IntKind.wrap_i64]; omega
  have wR : IntKind.i64.wrap (R : Int) = (R : Int) := by rw [IntKind.wrap_i64]; omega
  have wN : IntKind.i64.wrap (N : Int) = (N : Int) := by rw [IntKind.wrap_i64]; omega
  go_region_held3 (fun _ => True) (trivial)
    (first
      | (refine step_copy_splice (by rfl) (.tmp 36) (.tmp 44) 23 23 (by rfl) 5 Try.underlying23 size5 (some ⟨g1, R, none⟩) (some ⟨g1, A, none⟩) n (cap1 - R) n (cap1 - A) (by rfl) (by rfl) g1 R cur1 5 HRD.out.blk xc HLN.out (fun _ => ⟨rfl, _, rfl, HSRC.out⟩) HFIT.out HX1.out B w HBD.out HRD.out.base ?_
         intro w2 HG2 hB2))
  have hrow2 : Row w2 B g1 cap1 (splice cur1 R xc) := ⟨HG2.out, by rw [length_splice _ _ _ HFIT.out]; exact HR1.out.len, HR1.out.top, HR1.out.base⟩
  have hown2 := hrow2.owns M HMc.out
  rw [HSP.out] at hown2
  have hfz := hown2.frozenAt a
  have hcl : w2.cell? ⟨g1, a, none⟩ = some y0 := by
    rw [hown2.cellAt a (by omega)]
    exact get_mid pre _ y0 a hpre
  have hown3 := (hown2.stored a (.int .u8 (128 + (K : Int)))).1
  rw [set_mid pre (ys ++ xc) y0 _ a hpre] at hown3
  have HO3 := Lib.hid hown3
  have HB3 := Lib.hid (below_set hB2 hown2 a (.int .u8 (128 + (K : Int))))
  have hor := or128K K hK3
  clear hown3 hown2 hrow2 HG2 hB2 hs30 hs36 hs44 HSRC HFIT HLN HRD HBD
  go_wp2_with fail
  go_loopw [53] (fun i wr => ∃ t : Nat, t ≤ K ∧ i = .int .i64 (t : Int) ∧ Hid (wr.ownsRow B 5 1 (.slice (some ⟨g1, 0, none⟩) M cap1) M (pre ++ .int .u8 (128 + (K : Int)) :: (cells ((b256 n K).take t) ++ (ys.drop t ++ xc)))) ∧ Hid (Below B w wr)) (fun i _ => ((K : Int) - RowKit.intOf i).toNat)
  case atStart => exact ⟨0, by omega, by go_num, by simpa [cells] using HO3, HB3⟩
  case round =>
    obtain ⟨t, ht, rfl, HO, HBl⟩ := hrel
    clear HO3 HB3 hfz hcl hor
    by_cases hlt : t < K
    · obtain ⟨J, hJ⟩ : ∃ J, J = A + t := ⟨_, rfl⟩
      have eJ : (A : Int) + (t : Int) = (J : Int) := by omega
      have hn := HNN.out
      have hJM : (J : Int) < (M : Int) := by omega
      have hJMn : J < M := by omega
      have hfz := HO.out.frozenAt J
      have hyl := HYS.out
      have hTl : (cells ((b256 n K).take t)).length = t := by rw [cells_length, List.length_take, b256_length]; omega
      obtain ⟨y, hy⟩ : ∃ y, ys.drop t = y :: ys.drop (t + 1) := ⟨ys[t]'(by omega), List.drop_eq_getElem_cons (by omega)⟩
      have HOy := HO
      rw [hy] at HOy
      have hcl : wr.cell? ⟨g1, J, none⟩ = some y := by
        rw [HOy.out.cellAt J (by omega)]
        have := get_mid (pre ++ .int .u8 (128 + (K : Int)) :: cells ((b256 n K).take t)) (ys.drop (t + 1) ++ xc) y J (by simp [hTl]; omega)
        simpa using this
      have HNX : Hid (∀ z : Int, qAt 256 n (K - 1 - t) % 256 = z → (wr.setCell ⟨g1, J, none⟩ (.int .u8 z)).ownsRow B 5 1 (.slice (some ⟨g1, 0, none⟩) M cap1) M (pre ++ .int .u8 (128 + (K : Int)) :: (cells ((b256 n K).take (t + 1)) ++ (ys.drop (t + 1) ++ xc))) ∧ Below B w (wr.setCell ⟨g1, J, none⟩ (.int .u8 z))) := by
        intro z hz
        refine ⟨?_, below_set HBl.out HO.out J _⟩
        have h := (HOy.out.stored J (.int .u8 z)).1
        rw [lay_step pre (cells ((b256 n K).take t)) (ys.drop (t + 1)) xc _ y _ J (by rw [hTl, hpre]; omega)] at h
        rw [b256_take n K t hlt, cells_append, hz]
        exact h
      have hd3 : K - 1 - t = 0 ∨ K - 1 - t = 1 ∨ K - 1 - t = 2 := by omega
      have HK : Hid (t + 1 ≤ K) := by show _ ≤ _; omega
      clear hn hyl hTl hy HOy HO HBl hJ
      rcases hd3 with e | e | e
      · have ed : (K : Int) - 1 - (t : Int) = 0 := by omega
        have HZ := Lib.hid (HNX.out ((n : Int) % 256) (by rw [e]; rfl))
        clear HNX e
        go_wp2
        go_roundw
        case rel => exact ⟨t + 1, HK.out, by go_num, HZ.out.1, HZ.out.2⟩
        case measure => simp [RowKit.intOf]; omega
      · have ed : (K : Int) - 1 - (t : Int) = 1 := by omega
        have HZ := Lib.hid (HNX.out (((n : Int) / 256) % 256) (by rw [e]; rfl))
        clear HNX e
        go_wp2
        go_roundw
        case rel => exact ⟨t + 1, HK.out, by go_num, HZ.out.1, HZ.out.2⟩
        case measure => simp [RowKit.intOf]; omega
      · have ed : (K : Int) - 1 - (t : Int) = 2 := by omega
        have HZ := Lib.hid (HNX.out ((n : Int) / 65536) (by rw [e]; simp only [qAt]; omega))
        clear HNX e
        go_wp2
        go_roundw
        case rel => exact ⟨t + 1, HK.out, by go_num, HZ.out.1, HZ.out.2⟩
        case measure => simp [RowKit.intOf]; omega
    · obtain rfl : t = K := by omega
      go_wp2
      go_ret
      refine ⟨_, t, rfl, HW.out, ?_, HBl.out⟩
      have h := HO.out
      rw [List.take_of_length_le (by rw [b256_length]; exact Nat.le_refl _), List.drop_of_length_le (by rw [HYS.out]; exact Nat.le_refl _)] at h
      rw [← HNN.out.2.1]
      simpa using h
end Go.Proofs.Qxb6604565a.Ber
