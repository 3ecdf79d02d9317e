/-
  The walks of AppendConstructed and ZZappendConstructedBytes.
-/
import Derived.Test.Qxb6604565aCon
namespace Go.Proofs.Qxb6604565a.Ber
open Go.ChangeShapes Go.WideShapes Go.ChangeAt Go.RowKit
set_option linter.unusedVariables false

/-- what is laid behind the prefix -/
def enc (c num : Int) (K1 K2 : Nat) (cs : List Value) : List Value := cells (ident c num K1) ++ (cells (lens cs.length K2) ++ cs)

set_option maxRecDepth 100000 in
set_option maxHeartbeats 2000000 in
theorem constructed_any (c num : Int) (hc1 : 0 ≤ c) (hc2 : c ≤ 255) (hn0 : 0 ≤ num) (hn : num ≤ 4294967295) (p B n m : Nat) (bv cv : Value) (xs cs : List Value) (w : World) (hown : Apd w B bv n xs)
    (hc : w.ownsRow 0 5 1 cv m cs) (hcB : ∀ k, cv.ownBlock = some k → k < B) (h1 : ∀ u ∈ cs, u.oneCell' = true) (hbox : w.cell? ⟨p, 0, none⟩ = some cv) (hpB : p < B) (hlim : n + m ≤ 1048576) (hBw : B ≤ w.heap.size) :
    Calls Try.prog 16 #[bv, .agg #[.int .u8 c, .int .u32 num], .func (.func 17) #[] #[.pointer (some ⟨p, 0, none⟩)]] w fun r w' => ∃ v' K1 K2, r = .returned v' ∧ (31 ≤ num → Wd 128 num K1) ∧ (128 ≤ m → Wd 256 m K2) ∧ w'.ownsRow B 5 1 v' (n + (enc c num K1 K2 cs).length) (xs ++ enc c num K1 K2 cs) ∧ Below B w w' := by
  obtain ⟨i0, hi, hz0, hz1, hz2⟩ := info_parts info5
  have HA := Lib.hid (hown.alloc (.cells #[.int .u8 c, .int .u32 num] 28))
  have HXL : Hid (xs.length = n) := by
    show _ = _
    rcases hown with h | ⟨h, _⟩
    · simpa using h.1
    · simpa using h.1
  have HCL : Hid (cs.length = m) := by show _ = _; simpa using hc.1
  have HB0 : Hid (Below B w (w.alloc (.cells #[.int .u8 c, .int .u32 num] 28))) := (Below.refl _ _).alloc hBw _
  have HBW0 : Hid (B ≤ (w.alloc (.cells #[.int .u8 c, .int .u32 num] 28)).heap.size) := by show _ ≤ _; simp; omega
  have HC := Lib.hid hc
  have HCB := Lib.hid hcB
  have HC1 := Lib.hid h1
  have HBOX := Lib.hid hbox
  clear hown hc hcB h1 hbox
  go_enter Try.func16, Try.ntmps16
  go_wp2_with (go_at_call 19; go_must (refine (identifier_any c num hc1 hc2 hn0 hn B n bv xs _ HA.out HBW0.out (by omega)).mono ?_; rintro e w1 ⟨v1, K1, rfl, hW1, hown1, hb1⟩; refine Hid.out ?_))
  have hil := ident_len c num K1 hW1 hn0 hn
  obtain ⟨n1, hn1⟩ : ∃ n1, n1 = n + (ident c num K1).length := ⟨_, rfl⟩
  obtain ⟨xs1, hxs1⟩ : ∃ xs1, xs1 = xs ++ cells (ident c num K1) := ⟨_, rfl⟩
  rw [← hn1, ← hxs1] at hown1
  obtain ⟨g1, cap1, rfl⟩ := owns_form hown1 (by omega)
  have bn1 : n1 ≤ 1048600 := by omega
  have HO1 := Lib.hid (hown1.alloc (.cells #[.int .u8 0] 5))
  have HB1 := Lib.hid (HB0.out.trans hb1)
  have HBW1 : Hid (B ≤ w1.heap.size) := Nat.le_trans HBW0.out hb1.size
  have HBW1a : Hid (B ≤ (w1.alloc (.cells #[.int .u8 0] 5)).heap.size) := by show _ ≤ _; have := HBW1.out; simp; omega
  have HN1 : Hid (n1 = n + (ident c num K1).length ∧ xs1 = xs ++ cells (ident c num K1) ∧ xs1.length = n1) := ⟨hn1, hxs1, by simpa using hown1.1⟩
  have HW1 := Lib.hid hW1
  have HC0 := Lib.hid (one_cells w1 (.int .u8 0) 5)
  clear hn1 hxs1 hown1 hb1 hW1 hil
  refine Lib.hid ?_
  go_wp2_with (at_builtin; go_must (refine wpList_append_own _ rfl (.tmp 14) (.tmp 15) 23 rfl B 5 i0 (.int .u8 0) 1 1 Try.underlying23 hi hz0 hz1 hz2 rfl (by decide) _ n1 xs1 rfl HO1.out ⟨w1.heap.size, 0, none⟩ 1 1 [.int .u8 0] rfl rfl HC0.out (by intro x hx; simp at hx; subst hx; rfl) (by unfold maxLen; omega) (by omega) HBW1a.out ?_; intro v2 w2 hown2 hgrow2 _; refine Hid.out ?_))
  have HB2 := Lib.hid ((HB1.out.alloc HBW1.out (.cells #[.int .u8 0] 5)).grown hgrow2 HBW1a.out (fun k hk => (HO1.out.lt k hk).1))
  have HBW2 : Hid (B ≤ w2.heap.size) := Nat.le_trans HBW1a.out hgrow2.size
  have HO2 := Lib.hid hown2
  have HCK := Lib.hid (owns_kept HC.out HCB.out HB2.out)
  have HBX2 : Hid (w2.cell? ⟨p, 0, none⟩ = some cv) := (HB2.out.cell (p := ⟨p, 0, none⟩) hpB).trans HBOX.out
  clear hown2 hgrow2
  refine Lib.hid ?_
  go_wp2_with (go_at_call 17; go_must (refine (closure_any p B (n1 + 1) m v2 cv (xs1 ++ [.int .u8 0]) cs w2 HO2.out HCK.out HC1.out HBX2.out (by omega) HBW2.out).mono ?_; rintro e w3 ⟨v3, rfl, hown3, hb3⟩; refine Hid.out ?_))
  obtain ⟨g3, cap3, rfl⟩ := owns_form hown3 (by omega)
  obtain ⟨N, hN⟩ : ∃ N, N = n1 + 1 + m := ⟨_, rfl⟩
  rw [← hN] at hown3 ⊢
  have HO3 : Hid (w3.ownsRow B 5 1 (.slice (some ⟨g3, 0, none⟩) N cap3) N (xs1 ++ .int .u8 0 :: cs)) := by show World.ownsRow _ _ _ _ _ _ _; simpa using hown3
  have HBW3 : Hid (B ≤ w3.heap.size) := Nat.le_trans HBW2.out hb3.size
  have HB3 := Lib.hid (HB2.out.trans hb3)
  have HN := Lib.hid hN
  clear hown3 hb3 hN
  refine Lib.hid ?_
  go_wp2_with (go_at_call 20; go_must (refine (finish_any n1 m N B g3 cap3 xs1 cs (.int .u8 0) w3 HN.out HN1.out.2.2 (by omega) (by omega) HO3.out HBW3.out HC1.out).mono ?_; rintro e w4 ⟨v4, K2, rfl, hW2, hown4, hb4⟩; refine Hid.out ?_))
  have HW2 := Lib.hid hW2
  have HO4 := Lib.hid hown4
  have HB4 := Lib.hid (HB3.out.trans hb4)
  clear hW2 hown4 hb4
  refine Lib.hid ?_
  go_wp2
  go_ret
  refine ⟨_, K1, K2, rfl, HW1.out, HW2.out, owns_eq HO4.out ?_ ?_, HB4.out⟩
  · have := HN1.out.1
    have := HCL.out
    unfold enc
    simp [cells_length, this]
    omega
  · rw [HN1.out.2.1]
    unfold enc
    rw [HCL.out, List.append_assoc]
theorem owns_slice {w : World} {B n : Nat} {v : Value} {xs : List Value} (h : w.ownsRow B 5 1 v n xs) : ∃ a cap, v = .slice a n cap := by
  obtain ⟨hl, ⟨rfl, rfl⟩ | ⟨g, cap, cur, rfl, _⟩⟩ := h
  · exact ⟨_, _, rfl⟩
  · exact ⟨_, _, rfl⟩

set_option maxRecDepth 100000 in
set_option maxHeartbeats 2000000 in
theorem zz_any (c num : Int) (hc1 : 0 ≤ c) (hc2 : c ≤ 255) (hn0 : 0 ≤ num) (hn : num ≤ 4294967295) (n m : Nat) (bv cv : Value) (xs cs : List Value) (w : World)
    (hb : w.ownsRow 0 5 1 bv n xs) (hfull : bv = .slice none 0 0 ∨ ∃ g, bv = .slice (some ⟨g, 0, none⟩) n n)
    (hc : w.ownsRow 0 5 1 cv m cs) (h1 : ∀ u ∈ cs, u.oneCell' = true) (hlim : n + m ≤ 1048576) :
    Calls Try.prog 13 #[bv, .agg #[.int .u8 c, .int .u32 num], cv] w fun r w' => ∃ v' K1 K2, r = .returned v' ∧ (31 ≤ num → Wd 128 num K1) ∧ (128 ≤ m → Wd 256 m K2) ∧ w'.ownsRow 0 5 1 v' (n + (enc c num K1 K2 cs).length) (xs ++ enc c num K1 K2 cs) ∧ Below w.heap.size w w' := by
  obtain ⟨ca, ccap, rfl⟩ := owns_slice hc
  have hmf : ∀ (fn : Fn) (first cap : Array Value) (w : World), (Instr.makeFunc fn first cap).run Try.prog w = .ok (.func fn first cap) w := fun _ _ _ _ => rfl
  have HA : Hid (Apd ((w.alloc (.cells #[.int .u8 c, .int .u32 num] 28)).alloc (.cells #[.slice ca m ccap] 23)) (w.heap.size + 2) bv n xs) := by
    have h2 := (hb.alloc (.cells #[.int .u8 c, .int .u32 num] 28)).alloc (.cells #[.slice ca m ccap] 23)
    rcases hfull with rfl | ⟨g, rfl⟩
    · left
      exact owns_up h2 (fun k hk => by cases hk)
    · right
      exact ⟨h2, g, rfl⟩
  have HC := Lib.hid ((hc.alloc (.cells #[.int .u8 c, .int .u32 num] 28)).alloc (.cells #[.slice ca m ccap] 23))
  have HCB : Hid (∀ k, (Value.slice ca m ccap).ownBlock = some k → k < w.heap.size + 2) := fun k hk => by have := (hc.lt k hk).2; omega
  have HC1 := Lib.hid h1
  have HBX : Hid (((w.alloc (.cells #[.int .u8 c, .int .u32 num] 28)).alloc (.cells #[.slice ca m ccap] 23)).cell? ⟨w.heap.size + 1, 0, none⟩ = some (.slice ca m ccap)) := by
    show _ = _
    simp
  have HB0 : Hid (Below w.heap.size w ((w.alloc (.cells #[.int .u8 c, .int .u32 num] 28)).alloc (.cells #[.slice ca m ccap] 23))) := ((Below.refl _ _).alloc (Nat.le_refl _) _).alloc (by simp) _
  have HBW : Hid (w.heap.size + 2 ≤ ((w.alloc (.cells #[.int .u8 c, .int .u32 num] 28)).alloc (.cells #[.slice ca m ccap] 23)).heap.size) := by show _ ≤ _; simp
  clear hb hfull hc h1
  go_enter Try.func13, Try.ntmps13
  go_wp2_with (go_at_call 16; go_must (refine (constructed_any c num hc1 hc2 hn0 hn (w.heap.size + 1) (w.heap.size + 2) n m bv (.slice ca m ccap) xs cs _ HA.out HC.out HCB.out HC1.out HBX.out (by omega) hlim HBW.out).mono ?_; rintro e w1 ⟨v1, K1, K2, rfl, hW1, hW2, hown1, hb1⟩; refine Hid.out ?_))
  have HW1 := Lib.hid hW1
  have HW2 := Lib.hid hW2
  have HO1 := Lib.hid (owns_down hown1)
  have HB1 := Lib.hid (HB0.out.trans (hb1.mono (Nat.le_add_right _ 2)))
  clear hW1 hW2 hown1 hb1
  refine Lib.hid ?_
  go_wp2
  go_ret
  exact ⟨_, K1, K2, rfl, HW1.out, HW2.out, HO1.out, HB1.out⟩
end Go.Proofs.Qxb6604565a.Ber
