/-
  The walk of the law FnAppendConstructedExactEncoding over cloned slices.
-/
import Derived.Test.Qxb6604565aCons
namespace Go.Proofs.Qxb6604565a.Ber
open Go.ChangeShapes Go.WideShapes Go.ChangeAt Go.RowKit
set_option linter.unusedVariables false

theorem zzIdent_any (c num : Int) (w : World) (hc1 : 0 ≤ c) (hc2 : c ≤ 255) (hn0 : 0 ≤ num) (hn : num ≤ 4294967295) (K : Nat) (hK : 31 ≤ num → Wd 128 num K) :
    Calls Try.prog 9 #[.int .u8 c, .bool true, .int .u32 num] w fun r w' => ∃ v, r = .returned v ∧ w'.ownsRow w.heap.size 5 1 v (ident c num K).length (cells (ident c num K)) ∧ Below w.heap.size w w' := by
  by_cases h : num < 31
  · exact ident_small c num w ⟨hc1, hc2⟩ hn0 h K
  · refine (ident_big c num w ⟨hc1, hc2⟩ (by omega) hn).mono ?_
    rintro e w1 ⟨v, K', rfl, hW, h1, h2⟩
    obtain rfl := (hK (by omega)).same (by omega) hW
    exact ⟨v, rfl, h1, h2⟩
theorem zzLen_any (n : Nat) (w : World) (hn : n ≤ 1048576) (K : Nat) (hK : 128 ≤ n → Wd 256 n K) :
    Calls Try.prog 10 #[.int .i64 (n : Int)] w fun r w' => ∃ v, r = .returned v ∧ w'.ownsRow w.heap.size 5 1 v (lens n K).length (cells (lens n K)) ∧ Below w.heap.size w w' := by
  by_cases h : n < 128
  · exact len_small n w h K
  · refine (len_big n w (by omega) hn).mono ?_
    rintro e w1 ⟨v, K', rfl, hW, h1, h2⟩
    obtain rfl := (hK (by omega)).same (by omega) hW
    exact ⟨v, rfl, h1, h2⟩
theorem lens_len (n : Nat) (K : Nat) (h : 128 ≤ n → Wd 256 n K) (hn : n ≤ 1048576) : (lens n K).length ≤ 4 := by
  unfold lens
  split
  · simp
  · have := wd_le3 (h (by omega)) (by omega) (by omega)
    simp [b256_length]
    omega
theorem ident_bytes (c num : Int) (K : Nat) (h0 : 0 ≤ num) : IsB (ident c num K) := by
  intro z hz
  unfold ident at hz
  split at hz
  · simp at hz; omega
  · rcases List.mem_append.1 hz with h | h
    · simp at h; omega
    · exact b128_bytes num K z h
theorem lens_bytes (n : Nat) (K : Nat) (hK : 128 ≤ n → Wd 256 n K) (hn : n ≤ 1048576) : IsB (lens n K) := by
  intro z hz
  unfold lens at hz
  split at hz
  · simp at hz; omega
  · rcases List.mem_append.1 hz with h | h
    · have := wd_le3 (hK (by omega)) (by omega) (by omega)
      simp at h; omega
    · exact b256_bytes n K z h

set_option maxRecDepth 100000 in
set_option maxHeartbeats 4000000 in
theorem law_any (a0 a3 : Option Addr) (l0 c0 l3 c3 : Nat) (zb zc : List Int) (c num : Int) (w : World) (hc1 : 0 ≤ c) (hc2 : c ≤ 255) (hn0 : 0 ≤ num) (hn : num ≤ 4294967295) (hlim : l0 + l3 ≤ 1048576)
    (hzb : zb.length = l0) (hzc : zc.length = l3) (hbb : IsB zb) (hbc : IsB zc)
    (hclb : Calls Try.prog 6 #[.slice a0 l0 c0] w fun r w' => ∃ v, r = .returned v ∧ IsClone w w' v l0 zb)
    (hclc : ∀ W, Below w.heap.size w W → Calls Try.prog 6 #[.slice a3 l3 c3] W fun r w' => ∃ v, r = .returned v ∧ IsClone W w' v l3 zc) :
    Calls Try.prog 4 #[.slice a0 l0 c0, .int .u8 c, .int .u32 num, .slice a3 l3 c3] w fun e w' => e = .returned (.bool true) ∧ Below w.heap.size w w' := by
  have HCB := Lib.hid hclb
  have HCC := Lib.hid hclc
  have HZB := Lib.hid hzb
  have HZC := Lib.hid hzc
  have HBB := Lib.hid hbb
  have HBC := Lib.hid hbc
  have g1 : decide ((1048576 : Int) < (l0 : Int)) = false := decide_eq_false (by omega)
  have g2 : decide ((1048576 : Int) < (l3 : Int)) = false := decide_eq_false (by omega)
  have g3 : decide ((1048576 : Int) < (l0 : Int) + (l3 : Int)) = false := decide_eq_false (by omega)
  clear hclb hclc hzb hzc hbb hbc
  go_enter Try.func4, Try.ntmps4
  go_wp2_with (go_at_call 12; go_must (refine (zzBytes_yes a0 a3 l0 c0 l3 c3 c num w hlim).mono ?_; rintro e w1 ⟨rfl, hw1⟩; obtain rfl := hw1.symm; clear hw1; refine Hid.out ?_))
  refine Lib.hid ?_
  go_wp2_with (go_at_call 6; go_must (refine HCB.out.mono ?_; rintro e w1 ⟨vb, rfl, hB⟩; refine Hid.out ?_))
  have HB := Lib.hid hB
  clear hB HCB
  refine Lib.hid ?_
  go_wp2_with (go_at_call 6; go_must (refine (HCC.out _ HB.out.bel).mono ?_; rintro e w2 ⟨vc, rfl, hC⟩; refine Hid.out ?_))
  obtain ⟨ca, cc, rfl⟩ := owns_slice hC.own
  have HB2 := Lib.hid (HB.out.bel.trans (hC.bel.mono HB.out.bel.size))
  have HOB2 := Lib.hid (owns_below HB.out.own hC.bel)
  have HOC2 := Lib.hid hC.own
  have HFL : Hid (vb = .slice none 0 0 ∨ ∃ g, vb = .slice (some ⟨g, 0, none⟩) l0 l0) := by
    rcases HB.out.full with h | h
    · exact .inl h.1
    · exact .inr h
  clear hC HCC HB
  refine Lib.hid ?_
  go_wp2_with (go_at_call 13; go_must (refine (zz_any c num hc1 hc2 hn0 hn l0 l3 vb (.slice ca l3 cc) (cells zb) (cells zc) w2 HOB2.out HFL.out HOC2.out (cells_one _) hlim).mono ?_; rintro e w3 ⟨vg, K1, K2, rfl, hW1, hW2, hG, hb3⟩; refine Hid.out ?_))
  have HB3 := Lib.hid (HB2.out.trans (hb3.mono HB2.out.size))
  have HOB3 := Lib.hid (owns_below HOB2.out hb3)
  have HOC3 := Lib.hid (owns_below HOC2.out hb3)
  have HG3 := Lib.hid hG
  have HW1 := Lib.hid hW1
  have HW2 := Lib.hid hW2
  clear hG hb3 hW1 hW2 HB2 HOB2 HOC2 HFL
  refine Lib.hid ?_
  go_wp2_with (go_at_call 9; go_must (refine (zzIdent_any c num w3 hc1 hc2 hn0 hn K1 HW1.out).mono ?_; rintro e w4 ⟨vi, rfl, hI, hb4⟩; refine Hid.out ?_))
  have HB4 := Lib.hid (HB3.out.trans (hb4.mono HB3.out.size))
  have HOB4 := Lib.hid (owns_below HOB3.out hb4)
  have HOC4 := Lib.hid (owns_below HOC3.out hb4)
  have HG4 := Lib.hid (owns_below HG3.out hb4)
  have HI4 := Lib.hid (owns_down hI)
  have hil := ident_len c num K1 HW1.out hn0 hn
  have hll := lens_len l3 K2 HW2.out (by omega)
  clear hI hb4 HB3 HOB3 HOC3 HG3
  refine Lib.hid ?_
  go_wp2_with (go_at_call 8; go_must (refine (cat_any vb vi l0 (ident c num K1).length zb (ident c num K1) w4 (by omega) HOB4.out HI4.out).mono ?_; rintro e w5 ⟨v5, rfl, h5, hb5⟩; refine Hid.out ?_))
  have HB5 := Lib.hid (HB4.out.trans (hb5.mono HB4.out.size))
  have HOC5 := Lib.hid (owns_below HOC4.out hb5)
  have HG5 := Lib.hid (owns_below HG4.out hb5)
  have H5 := Lib.hid (owns_down h5)
  clear h5 hb5 HB4 HOB4 HOC4 HG4 HI4
  refine Lib.hid ?_
  go_wp2_with (go_at_call 10; go_must (refine (zzLen_any l3 w5 (by omega) K2 HW2.out).mono ?_; rintro e w6 ⟨vl, rfl, hL, hb6⟩; refine Hid.out ?_))
  have HB6 := Lib.hid (HB5.out.trans (hb6.mono HB5.out.size))
  have HOC6 := Lib.hid (owns_below HOC5.out hb6)
  have HG6 := Lib.hid (owns_below HG5.out hb6)
  have H6 := Lib.hid (owns_below H5.out hb6)
  have HL6 := Lib.hid (owns_down hL)
  clear hL hb6 HB5 HOC5 HG5 H5
  refine Lib.hid ?_
  go_wp2_with (go_at_call 8; go_must (refine (cat_any vl (.slice ca l3 cc) (lens l3 K2).length l3 (lens l3 K2) zc w6 (by omega) HL6.out HOC6.out).mono ?_; rintro e w7 ⟨v7, rfl, h7, hb7⟩; refine Hid.out ?_))
  have HB7 := Lib.hid (HB6.out.trans (hb7.mono HB6.out.size))
  have HG7 := Lib.hid (owns_below HG6.out hb7)
  have H57 := Lib.hid (owns_below H6.out hb7)
  have H7 := Lib.hid (owns_down h7)
  clear h7 hb7 HB6 HOC6 HG6 H6 HL6
  refine Lib.hid ?_
  go_wp2_with (go_at_call 8; go_must (refine (cat_any v5 v7 (l0 + (ident c num K1).length) ((lens l3 K2).length + l3) (zb ++ ident c num K1) (lens l3 K2 ++ zc) w7 (by omega) H57.out H7.out).mono ?_; rintro e w8 ⟨v8, rfl, h8, hb8⟩; refine Hid.out ?_))
  have HB8 := Lib.hid (HB7.out.trans (hb8.mono HB7.out.size))
  have HG8 := Lib.hid (owns_below HG7.out hb8)
  have H8 := Lib.hid (owns_down h8)
  clear h8 hb8 HB7 HG7 H57 H7
  have HISB : Hid (IsB (zb ++ ident c num K1 ++ (lens l3 K2 ++ zc))) := (HBB.out.app (ident_bytes c num K1 hn0)).app ((lens_bytes l3 K2 HW2.out (by omega)).app HBC.out)
  have HGE : Hid (w8.ownsRow 0 5 1 vg (l0 + (ident c num K1).length + ((lens l3 K2).length + l3)) (cells (zb ++ ident c num K1 ++ (lens l3 K2 ++ zc)))) := by
    have hz := HZC.out
    refine owns_eq HG8.out ?_ ?_
    · unfold enc
      simp only [List.length_append, cells_length, hz]
      omega
    · unfold enc
      simp only [cells_append, List.append_assoc, cells_length, hz]
  clear HG8
  refine Lib.hid ?_
  go_wp2_with (go_at_call 11; go_must (refine (eq_any vg v8 (l0 + (ident c num K1).length + ((lens l3 K2).length + l3)) (zb ++ ident c num K1 ++ (lens l3 K2 ++ zc)) w8 (by omega) HISB.out HGE.out H8.out).mono ?_; rintro e w9 ⟨rfl, kk, rfl⟩; refine Hid.out ?_))
  have HB9 : Hid (Below w.heap.size w (w8.drewN kk)) :=

    ⟨HB8.out.os, HB8.out.tape, HB8.out.output, HB8.out.size, HB8.out.block⟩

  refine Lib.hid ?_
  go_wp2
  go_ret
  exact ⟨rfl, HB9.out⟩
end Go.Proofs.Qxb6604565a.Ber
