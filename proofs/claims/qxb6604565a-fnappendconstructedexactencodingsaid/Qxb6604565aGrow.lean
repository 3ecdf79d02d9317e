/-
  The walk of slices.Grow at []byte.
-/
import Derived.Lib.AppendZerosOnto
import Derived.Lib.SliceRun
import Derived.Test.Qxb6604565aApd
namespace Go.Proofs.Qxb6604565a.Ber
open Go.ChangeShapes Go.WideShapes Go.ChangeAt Go.RowKit
set_option linter.unusedVariables false

/-- a row of bytes known whole -/
structure Row (W : World) (B g cap : Nat) (cur : List Value) : Prop where
  blk : W.heap[g]? = some (.cells cur.toArray 5 (0, 0))
  len : cur.length = cap
  top : cap ≤ maxLen
  base : B ≤ g

theorem Row.of {W : World} {B n g cap : Nat} {xs : List Value} (h : W.ownsRow B 5 1 (.slice (some ⟨g, 0, none⟩) n cap) n xs) : ∃ cur, Row W B g cap cur ∧ n ≤ cap ∧ cur.take n = xs ∧ xs.length = n := by
  obtain ⟨hl, h0 | ⟨g', cap', cur, hv, hb, hg, hn, hc, hs, ht⟩⟩ := h
  · cases h0.1
  · simp only [Value.slice.injEq, Option.some.injEq, Addr.mk.injEq, and_true, true_and] at hv
    obtain ⟨rfl, rfl⟩ := hv
    refine ⟨cur.toList, ⟨by simpa using hg, by simpa using hs, hc, hb⟩, hn, by simpa using ht, by simpa using hl⟩
theorem Row.owns {W : World} {B g cap : Nat} {cur : List Value} (h : Row W B g cap cur) (n : Nat) (hn : n ≤ cap) : W.ownsRow B 5 1 (.slice (some ⟨g, 0, none⟩) n cap) n (cur.take n) := by
  have := h.len
  exact ⟨by simp; omega, .inr ⟨g, cap, cur.toArray, rfl, h.base, h.blk, hn, h.top, by simpa using h.len, by simp⟩⟩

set_option maxRecDepth 100000 in
set_option maxHeartbeats 2000000 in
theorem grow_room (w : World) (g N cap k : Nat) (hN : N + k ≤ cap) (hcap : cap ≤ 9223372036854775807) (hk1 : 1 ≤ k) (hk3 : k ≤ 3) :
    Calls Try.prog 24 #[.slice (some ⟨g, 0, none⟩) N cap, .int .i64 k] w fun r w' => r = .returned (.slice (some ⟨g, 0, none⟩) N cap) ∧ w' = w := by
  have h1 : ¬ ((k : Int) < 0) := by omega
  have h2 : wrap64 ((cap : Int) - (N : Int)) = (cap : Int) - (N : Int) := by unfold wrap64; omega
  have h3 : wrap64 ((k : Int) - ((cap : Int) - (N : Int))) = (k : Int) - ((cap : Int) - (N : Int)) := by unfold wrap64; omega
  have h4 : ¬ ((k : Int) - ((cap : Int) - (N : Int)) > 0) := by omega
  go_enter Try.func24, Try.ntmps24
  go_wp2
  go_ret
  exact ⟨rfl, rfl⟩

set_option maxRecDepth 100000 in
set_option maxHeartbeats 4000000 in
theorem grow_none (w : World) (B g N cap k : Nat) (cur : List Value) (hR : Row w B g cap cur) (hNc : N ≤ cap) (hN : cap < N + k) (hN2 : N ≤ 4000000) (hk1 : 1 ≤ k) (hk3 : k ≤ 3) (hBw : B ≤ w.heap.size) :
    Calls Try.prog 24 #[.slice (some ⟨g, 0, none⟩) N cap, .int .i64 k] w fun r w' => ∃ g' cap' cur', r = .returned (.slice (some ⟨g', 0, none⟩) N cap') ∧ Row w' B g' cap' cur' ∧ N + k ≤ cap' ∧ cur'.take N = cur.take N ∧ Below B w w' := by
  obtain ⟨i0, hi, hz0, hz1, hz2⟩ := info_parts info5
  have h1 : ¬ ((k : Int) < 0) := by omega
  have h2 : wrap64 ((cap : Int) - (N : Int)) = (cap : Int) - (N : Int) := by unfold wrap64; omega
  have h3 : wrap64 ((k : Int) - ((cap : Int) - (N : Int))) = (k : Int) - ((cap : Int) - (N : Int)) := by unfold wrap64; omega
  have h4 : (k : Int) - ((cap : Int) - (N : Int)) > 0 := by omega
  have hck : cap + (N + k - cap) = N + k := by omega
  have hold : (Builtin.firstCells i0.size cap (.slice (some ⟨g, 0, none⟩) cap cap)).run Try.prog w.drew = .ok cur.toArray w.drew := by
    refine run_firstCells_some w.drew i0.size cap ⟨g, 0, none⟩ cap cap cur (by rw [hz1, hR.len]; omega) ?_
    intro j v hj
    have hadd : (⟨g, 0, none⟩ : Addr).add j = ⟨g, j, none⟩ := by unfold Addr.add; split <;> simp_all
    rw [hadd]
    have := cell_of_row w.drew g j cur.toArray 5 (0, 0) hR.blk
    rw [this]
    simpa using hj
  have HRZ : Hid (∀ ty, (Builtin.append_ #[23, 3] ty #[.slice (some ⟨g, 0, none⟩) cap cap, .int .i64 ((k : Int) - ((cap : Int) - (N : Int)))]).run Try.prog w =
      .ok (.slice (some ⟨w.heap.size, 0, none⟩) (N + k) (grownCap w (N + k) cap 5)) (w.drew.alloc (.cells (cur.toArray ++ Builtin.zeroCells (Value.int .u8 0).cells (N + k - cap) ++ Builtin.zeroCells (Value.int .u8 0).cells (grownCap w (N + k) cap 5 - (N + k))) 5))) := fun ty => by
    have h := Lib.run_append_grow_zeros w 23 3 ty 5 i0 (.int .u8 0) .i64 .i64 Try.underlying23 Try.underlying3 hi hz0 (some ⟨g, 0, none⟩) cap cap cur hold (N + k - cap) (by omega) (by omega) (by omega) (by omega)
      (by rw [hz2]; omega)
      (by rw [hck]; exact growslice_fits hN (by rw [hz2]; omega))
    rw [hck] at h
    rw [show (k : Int) - ((cap : Int) - (N : Int)) = ((N + k - cap : Nat) : Int) by omega]
    exact h
  have hGn : N + k ≤ grownCap w (N + k) cap 5 := grownCap_ge w _ _ _
  have hG63 : grownCap w (N + k) cap 5 ≤ maxLen := grownCap_le_maxLen w (N + k) cap 5 (by unfold maxLen; omega)
  have HRow : Hid (Row (w.drew.alloc (.cells (cur.toArray ++ Builtin.zeroCells (Value.int .u8 0).cells (N + k - cap) ++ Builtin.zeroCells (Value.int .u8 0).cells (grownCap w (N + k) cap 5 - (N + k))) 5)) B w.heap.size (grownCap w (N + k) cap 5) (cur.toArray ++ Builtin.zeroCells (Value.int .u8 0).cells (N + k - cap) ++ Builtin.zeroCells (Value.int .u8 0).cells (grownCap w (N + k) cap 5 - (N + k))).toList) := by
    refine ⟨?_, ?_, hG63, hBw⟩
    · rw [Array.toArray_toList]; exact heap_alloc_new w.drew _
    · have := hR.len
      simp [Builtin.zeroCells, Value.cells]
      omega
  have HTk : Hid ((cur.toArray ++ Builtin.zeroCells (Value.int .u8 0).cells (N + k - cap) ++ Builtin.zeroCells (Value.int .u8 0).cells (grownCap w (N + k) cap 5 - (N + k))).toList.take N = cur.take N) := by
    show _ = _
    have := hR.len
    rw [Array.toList_append, Array.toList_append, List.append_assoc, List.take_append_of_le_length (by simp; omega)]
  have HB : Hid (Below B w (w.drew.alloc (.cells (cur.toArray ++ Builtin.zeroCells (Value.int .u8 0).cells (N + k - cap) ++ Builtin.zeroCells (Value.int .u8 0).cells (grownCap w (N + k) cap 5 - (N + k))) 5))) := ((Below.refl B w).drew).alloc hBw _
  have HGn := Lib.hid hGn
  obtain ⟨G, hG⟩ : ∃ G, G = grownCap w (N + k) cap 5 := ⟨_, rfl⟩
  rw [← hG] at HRZ HRow HTk HB HGn hG63 hGn
  unfold maxLen at hG63
  obtain ⟨C, hC⟩ : ∃ C, C = (cur.toArray ++ Builtin.zeroCells (Value.int .u8 0).cells (N + k - cap) ++ Builtin.zeroCells (Value.int .u8 0).cells (G - (N + k))) := ⟨_, rfl⟩
  rw [← hC] at HRZ HRow HTk HB
  clear hold hck hG hC hR hi hz0 hz1 hz2
  go_enter Try.func24, Try.ntmps24
  go_wp2_with (at_builtin; go_must (refine Lib.wpList_append_run _ rfl (.tmp 20) (.tmp 21) 23 3 rfl _ _ rfl rfl _ _ (HRZ.out _) ?_))
  go_ret
  exact ⟨_, _, rfl, _, HRow.out, HGn.out, HTk.out, HB.out⟩
theorem grow_any (w : World) (B g N cap k : Nat) (cur : List Value) (hR : Row w B g cap cur) (hNc : N ≤ cap) (hN2 : N ≤ 4000000) (hk1 : 1 ≤ k) (hk3 : k ≤ 3) (hBw : B ≤ w.heap.size) :
    Calls Try.prog 24 #[.slice (some ⟨g, 0, none⟩) N cap, .int .i64 k] w fun r w' => ∃ g' cap' cur', r = .returned (.slice (some ⟨g', 0, none⟩) N cap') ∧ Row w' B g' cap' cur' ∧ N + k ≤ cap' ∧ cur'.take N = cur.take N ∧ Below B w w' := by
  by_cases h : N + k ≤ cap
  · refine (grow_room w g N cap k h (by have := hR.top; unfold maxLen at this; omega) hk1 hk3).mono ?_
    rintro e w1 ⟨rfl, hw1⟩
    obtain rfl := hw1.symm
    clear hw1
    exact ⟨g, cap, cur, rfl, hR, h, rfl, Below.refl _ _⟩
  · exact grow_none w B g N cap k cur hR hNc (by omega) hN2 hk1 hk3 hBw
end Go.Proofs.Qxb6604565a.Ber
