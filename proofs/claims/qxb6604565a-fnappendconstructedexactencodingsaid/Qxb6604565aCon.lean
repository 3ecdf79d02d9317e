/-
  The closure, AppendConstructed and ZZappendConstructedBytes.
-/
import Derived.Laws.AppendOwnNone
import Derived.Test.Qxb6604565aIdBig
import Derived.Test.Qxb6604565aFinBig
namespace Go.Proofs.Qxb6604565a.Ber
open Go.ChangeShapes Go.WideShapes Go.ChangeAt Go.RowKit
set_option linter.unusedVariables false

theorem ident_len (c num : Int) (K : Nat) (h : 31 ≤ num → Wd 128 num K) (hn : 0 ≤ num) (hn2 : num ≤ 4294967295) : 1 ≤ (ident c num K).length ∧ (ident c num K).length ≤ 6 := by
  unfold ident
  split
  · simp
  · have hW := h (by omega)
    have h5 : K ≤ 5 := by
      rcases hW.full with e | e
      · omega
      · by_cases hk : K ≤ 5
        · exact hk
        · exact absurd (qAt_zero_le 128 num (by omega) 5 (K - 1) (by omega) (q128_5 num hn hn2)) e
    simp [b128_length]
    omega

theorem identifier_any (c num : Int) (hc1 : 0 ≤ c) (hc2 : c ≤ 255) (hn0 : 0 ≤ num) (hn : num ≤ 4294967295) (B n : Nat) (sv : Value) (xs : List Value) (w : World) (hown : Apd w B sv n xs) (hBw : B ≤ w.heap.size) (hlim : n ≤ 3999990) :
    Calls Try.prog 19 #[sv, .agg #[.int .u8 c, .int .u32 num], .bool true] w fun r w' => ∃ v' K, r = .returned v' ∧ (31 ≤ num → Wd 128 num K) ∧ w'.ownsRow B 5 1 v' (n + (ident c num K).length) (xs ++ cells (ident c num K)) ∧ Below B w w' := by
  by_cases h : num < 31
  · refine (identifier_small c num hc1 hc2 hn0 h 0 B n sv xs w hown hBw (by omega)).mono ?_
    rintro e w1 ⟨v', rfl, h1, h2⟩
    exact ⟨v', 0, rfl, fun h3 => by omega, h1, h2⟩
  · refine (identifier_big c num hc1 hc2 (by omega) hn B n sv xs w hown hBw hlim).mono ?_
    rintro e w1 ⟨v', K, rfl, h0, h1, h2⟩
    exact ⟨v', K, rfl, fun _ => h0, h1, h2⟩

theorem finish_any (a n N B g cap : Nat) (pre xc : List Value) (x0 : Value) (w : World) (hN : N = a + 1 + n) (hpre : pre.length = a) (hn2 : n ≤ 1048576) (ha : a ≤ 2000000)
    (hown : w.ownsRow B 5 1 (.slice (some ⟨g, 0, none⟩) N cap) N (pre ++ x0 :: xc)) (hBw : B ≤ w.heap.size) (hx1 : ∀ v ∈ xc, v.oneCell' = true) :
    Calls Try.prog 20 #[.slice (some ⟨g, 0, none⟩) N cap, .int .i64 (a : Int)] w fun r w' => ∃ v' K, r = .returned v' ∧ (128 ≤ n → Wd 256 n K) ∧ w'.ownsRow B 5 1 v' (a + (lens n K).length + n) (pre ++ (cells (lens n K) ++ xc)) ∧ Below B w w' := by
  by_cases h : n < 128
  · refine (finish_small a n N B g cap pre xc x0 w hN hpre h (by omega) hown hBw).mono ?_
    rintro e w1 ⟨v', rfl, h1, h2⟩
    have e1 : lens n 0 = [(n : Int)] := by unfold lens; rw [if_pos (by omega)]
    refine ⟨v', 0, rfl, fun h3 => by omega, owns_eq h1 ?_ ?_, h2⟩
    · rw [e1]; simp; omega
    · rw [e1]; simp [cells]
  · refine (finish_big a n N B g cap pre xc x0 w hN hpre (by omega) hn2 ha hown hBw hx1).mono ?_
    rintro e w1 ⟨v', K, rfl, h0, h1, h2⟩
    have e1 : lens n K = [128 + (K : Int)] ++ b256 n K := by unfold lens; rw [if_neg (by omega)]
    refine ⟨v', K, rfl, fun _ => h0, owns_eq h1 ?_ ?_, h2⟩
    · rw [e1]; simp [b256_length]; omega
    · rw [e1]; simp [cells]

theorem owns_kept {w w' : World} {B n : Nat} {v : Value} {xs : List Value} (h : w.ownsRow 0 5 1 v n xs) (hlt : ∀ k, v.ownBlock = some k → k < B) (hb : Below B w w') : w'.ownsRow 0 5 1 v n xs := by
  obtain ⟨hl, h0 | ⟨g, cap, cur, rfl, hbg, hg, r⟩⟩ := h
  · exact ⟨hl, .inl h0⟩
  · exact ⟨hl, .inr ⟨g, cap, cur, rfl, hbg, by rw [hb.block g (hlt g rfl)]; exact hg, r⟩⟩

theorem owns_form {w : World} {B n : Nat} {v : Value} {xs : List Value} (h : w.ownsRow B 5 1 v n xs) (hn : 0 < n) : ∃ g cap, v = .slice (some ⟨g, 0, none⟩) n cap := by
  obtain ⟨hl, h0 | ⟨g, cap, cur, rfl, _⟩⟩ := h
  · omega
  · exact ⟨g, cap, rfl⟩

set_option maxRecDepth 100000 in
set_option maxHeartbeats 1000000 in
theorem closure_any (p B n m : Nat) (bv cv : Value) (xs cs : List Value) (w : World) (hown : w.ownsRow B 5 1 bv n xs) (hc : w.ownsRow 0 5 1 cv m cs) (h1 : ∀ u ∈ cs, u.oneCell' = true) (hbox : w.cell? ⟨p, 0, none⟩ = some cv) (hlim : n + m ≤ 4000000) (hBw : B ≤ w.heap.size) :
    Calls Try.prog 17 #[bv, .pointer (some ⟨p, 0, none⟩)] w fun r w' => ∃ v', r = .returned v' ∧ w'.ownsRow B 5 1 v' (n + m) (xs ++ cs) ∧ Below B w w' := by
  obtain ⟨i0, hi, hz0, hz1, hz2⟩ := info_parts info5
  have HO := Lib.hid hown
  have HC := Lib.hid hc
  have HC1 := Lib.hid h1
  have HBw := Lib.hid hBw
  clear hown h1
  obtain ⟨hl, ⟨rfl, rfl⟩ | ⟨g, cap, cur, rfl, hbg, hg, r⟩⟩ := hc
  · have e0 : cs = [] := List.eq_nil_of_length_eq_zero (by simpa using hl)
    subst e0
    clear hl
    go_enter Try.func17, Try.ntmps17
    go_wp2_with (at_builtin; go_must (refine wpList_append_own_none rfl (.tmp 4) (.tmp 5) 23 rfl B 5 i0 1 Try.underlying23 hi _ n xs rfl HO.out rfl ?_))
    go_ret
    refine ⟨_, rfl, ?_, Below.refl _ _⟩
    simpa using HO.out
  · have hcl := HC.out.cells (g := g) rfl
    have HCL := Lib.hid hcl
    have HL : Hid (cs.length = m * 1) := hl
    clear hl hbg hg r hcl
    go_enter Try.func17, Try.ntmps17
    go_wp2_with (at_builtin; go_must (refine wpList_append_own _ rfl (.tmp 4) (.tmp 5) 23 rfl B 5 i0 (.int .u8 0) 1 1 Try.underlying23 hi hz0 hz1 hz2 rfl (by decide) _ n xs rfl HO.out ⟨g, 0, none⟩ m cap cs rfl HL.out HCL.out HC1.out (by unfold maxLen; omega) (by omega) HBw.out ?_; intro v3 w3 hown3 hgrow3 _; refine Hid.out ?_))
    have HO3 := Lib.hid hown3
    have HB3 := Lib.hid ((Below.refl B w).grown hgrow3 HBw.out (fun k hk => (HO.out.lt k hk).1))
    clear hown3 hgrow3
    refine Lib.hid ?_
    go_wp2
    go_ret
    exact ⟨_, rfl, HO3.out, HB3.out⟩
end Go.Proofs.Qxb6604565a.Ber
