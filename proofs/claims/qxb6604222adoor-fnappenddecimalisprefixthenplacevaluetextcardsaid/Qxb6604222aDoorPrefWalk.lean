/-
  The walk of FnAppendDecimalIsPrefixThenPlaceValueText, and of its helpers.
-/
import Derived.Lib.SliceRun
import Derived.OpenShut
import Derived.Test.Qxb6604222aDoorFull2
import Derived.Test.Qxb6604222aDoorPvText2
namespace Go.Proofs.Qxb6604222aDoor.Full
open Go.RowKit Go.Sort Go.Lib Bufs
set_option linter.unusedVariables false

/-- the whole text -/
def ft (m e : Int) : List Value := if m < 0 then [.int .u8 45] ++ body m.natAbs e else body m.natAbs e

theorem ft_bytes (m e : Int) : IsBytes (ft m e) := by
  unfold ft
  split
  · exact (IsBytes.one 45 (by omega) (by omega)).app (body_bytes _ _)
  · exact body_bytes _ _

theorem ft_len (m e : Int) (hm1 : -9223372036854775808 ≤ m) (hm2 : m ≤ 9223372036854775807) (he1 : -9223372036854775808 ≤ e) (he2 : e ≤ 9223372036854775807) : 1 ≤ (ft m e).length ∧ (ft m e).length ≤ 101 := by
  have := body_len m.natAbs e (by omega) he1 he2
  unfold ft
  split
  · simp only [List.length_append, List.length_cons, List.length_nil]; omega
  · omega

theorem zzFull_any (m e : Int) (hm1 : -9223372036854775808 ≤ m) (hm2 : m ≤ 9223372036854775807) (he1 : -9223372036854775808 ≤ e) (he2 : e ≤ 9223372036854775807) (n : Nat) (sv : Value) (xs : List Value) (w : World)
    (hown : Apd w w.heap.size sv n xs) (hlim : n ≤ 1000000000) (htab : Lib.TabIs Tryd.prog w pow10Name .u64 Lib.pow10Tab) :
    Calls Tryd.prog 7 #[sv, .int .i64 m, .int .i64 e] w fun r w' => ∃ v', r = .returned v' ∧ w'.ownsRow w.heap.size 5 1 v' (n + (ft m e).length) (xs ++ ft m e) ∧ Below w.heap.size w w' := by
  have hin : Calls Tryd.prog 10 #[sv, .agg #[.int .i64 m, .int .i64 e]] w fun r w' => ∃ v', r = .returned v' ∧ w'.ownsRow w.heap.size 5 1 v' (n + (ft m e).length) (xs ++ ft m e) ∧ Below w.heap.size w w' := by
    by_cases hm : m < 0
    · have h := full_neg m.natAbs e (by omega) (by omega) he1 he2 n sv xs w hown hlim (Lib.tabBelow_of_tabIs htab)
      rw [show -((m.natAbs : Nat) : Int) = m by omega] at h
      refine h.mono ?_
      rintro r w' ⟨v', rfl, h1, h2⟩
      refine ⟨v', rfl, owns_eq h1 ?_ ?_, h2⟩
      · unfold ft; rw [if_pos hm]; simp only [List.length_append, List.length_cons, List.length_nil]; omega
      · unfold ft; rw [if_pos hm]; simp only [List.append_assoc]
    · have h := full_pos m.natAbs e (by omega) he1 he2 n sv xs w hown hlim (Lib.tabBelow_of_tabIs htab)
      rw [show ((m.natAbs : Nat) : Int) = m by omega] at h
      refine h.mono ?_
      rintro r w' ⟨v', rfl, h1, h2⟩
      refine ⟨v', rfl, owns_eq h1 ?_ ?_, h2⟩
      · unfold ft; rw [if_neg hm]
      · unfold ft; rw [if_neg hm]
  have HC := Lib.hid hin
  clear hown htab hin
  go_enter Tryd.func7, Tryd.ntmps7
  go_wp2_with (go_at_call 10; go_must (refine HC.out.mono ?_; rintro r w1 ⟨v1, rfl, h1, h2⟩; have H1 := Lib.hid h1; clear h1))
  go_ret
  exact ⟨v1, rfl, H1.out, h2⟩

theorem decText_any (m e : Int) (hm1 : -9223372036854775808 ≤ m) (hm2 : m ≤ 9223372036854775807) (he1 : -9223372036854775808 ≤ e) (he2 : e ≤ 9223372036854775807) (w : World) :
    Calls Tryd.prog 8 #[.int .i64 m, .int .i64 e] w fun r w' => ∃ v', r = .returned v' ∧ w'.ownsRow w.heap.size 5 1 v' (ft m e).length (ft m e) ∧ Below w.heap.size w w' := by
  by_cases hm : m < 0
  · have h := decText_neg m.natAbs e (by omega) (by omega) he1 he2 w
    rw [show -((m.natAbs : Nat) : Int) = m by omega] at h
    refine h.mono ?_
    rintro r w' ⟨v', rfl, h1, h2⟩
    refine ⟨v', rfl, owns_eq h1 ?_ ?_, h2⟩
    · unfold ft; rw [if_pos hm]; simp only [List.length_append, List.length_cons, List.length_nil]
    · unfold ft; rw [if_pos hm]
  · have h := decText_pos m.natAbs e (by omega) he1 he2 w
    rw [show ((m.natAbs : Nat) : Int) = m by omega] at h
    refine h.mono ?_
    rintro r w' ⟨v', rfl, h1, h2⟩
    refine ⟨v', rfl, owns_eq h1 ?_ ?_, h2⟩
    · unfold ft; rw [if_neg hm]
    · unfold ft; rw [if_neg hm]

theorem zzBytes_yes (m e : Int) (a : Option Addr) (len cap : Nat) (w : World) (h : len ≤ 1048576) :
    Calls Tryd.prog 5 #[.slice a len cap, .int .i64 m, .int .i64 e] w fun r w' => r = .returned (.bool true) ∧ w' = w := by
  go_enter Tryd.func5, Tryd.ntmps5
  go_wp2
  go_ret
  exact ⟨rfl, rfl⟩
theorem zzBytes_no (m e : Int) (a : Option Addr) (len cap : Nat) (w : World) (h : 1048576 < len) :
    Calls Tryd.prog 5 #[.slice a len cap, .int .i64 m, .int .i64 e] w fun r w' => r = .returned (.bool false) ∧ w' = w := by
  go_enter Tryd.func5, Tryd.ntmps5
  go_wp2
  go_ret
  exact ⟨rfl, rfl⟩

/-- what the clone is -/
structure IsClone (w W : World) (a : Option Addr) (n : Nat) (zs : List Int) : Prop where
  apd : Apd W W.heap.size (.slice a n n) n (zs.map (Value.int .u8))
  old : W.ownsRow 0 5 1 (.slice a n n) n (zs.map (Value.int .u8))
  bel : Below w.heap.size w W

theorem clone_nil (w : World) : Calls Tryd.prog 6 #[.slice none 0 0] w fun r w' => ∃ a, r = .returned (.slice a 0 0) ∧ IsClone w w' a 0 [] := by
  have q22 : ∀ (w : World) (a : Option Addr) (n c n' c' : Nat), (binOp .eql 22 (.slice a n c) (.slice none n' c')).run Tryd.prog w = .ok (.bool a.isNone) w := fun w a n c n' c' => Lib.run_eql_slice_nil w _ _ a n c n' c' Tryd.underlying22
  go_enter Tryd.func6, Tryd.ntmps6
  go_wp2
  go_ret
  exact ⟨none, rfl, .inl (World.ownsRow_nil _ _ _ _), World.ownsRow_nil _ _ _ _, Below.refl _ _⟩

set_option maxHeartbeats 1000000 in
theorem clone_some (x : Addr) (len cap : Nat) (zs : List Int) (w : World) (hl : len ≤ 1048576) (hz : zs.length = len)
    (hcell : ∀ i, i < zs.length → w.cell? (x.add i) = some (.int .u8 (zs.getD i 0))) (hx : 0 < len → x.block < w.heap.size) :
    Calls Tryd.prog 6 #[.slice (some x) len cap] w fun r w' => ∃ a, r = .returned (.slice a len len) ∧ IsClone w w' a len zs := by
  have q22 : ∀ (w : World) (a : Option Addr) (n c n' c' : Nat), (binOp .eql 22 (.slice a n c) (.slice none n' c')).run Tryd.prog w = .ok (.bool a.isNone) w := fun w a n c n' c' => Lib.run_eql_slice_nil w _ _ a n c n' c' Tryd.underlying22
  have hmk := run_make_row' (P := Tryd.prog) 22 5 (.int .u8 0) 1 Tryd.underlying22 Ints.dec_info5 rfl .i64 .i64 len (by omega) (by omega)
  obtain ⟨cs, HC⟩ : ∃ cs, Hid (cs = zs.map (Value.int .u8)) := ⟨_, rfl⟩
  have HL : Hid (cs.length = len) := by show _ = _; rw [HC.out]; simpa using hz
  have hb0 : Below w.heap.size w (w.alloc (.cells (madeCells #[.int .u8 0] len) 5)) := (Below.refl _ _).alloc (Nat.le_refl _) _
  have hsrc : Hid (∀ j v, cs[j]? = some v → (w.alloc (.cells (madeCells #[.int .u8 0] len) 5)).cell? (x.add j) = some v) := by
    intro j v hv
    rw [HC.out] at hv
    have hj : j < zs.length := by
      have := (List.getElem?_eq_some_iff.1 hv).1
      simpa using this
    have hv' : v = .int .u8 (zs.getD j 0) := by
      simp [List.getElem?_eq_getElem hj] at hv
      simp [List.getD, List.getElem?_eq_getElem hj, hv]
    rw [hv', hb0.cell (p := x.add j) (by have := hx (by omega); unfold Addr.add; split <;> simpa using this)]
    exact hcell j hj
  have h1 : Hid (∀ v ∈ cs, v.oneCell' = true) := by
    intro v hv
    rw [HC.out] at hv
    exact map_one zs v hv
  have hg : Hid ((w.alloc (.cells (madeCells #[.int .u8 0] len) 5)).heap[w.heap.size]? = some (.cells (Ints.zeros len).toArray 5 (0, 0))) := by
    show _ = _
    rw [Ints.zeros_made]; exact heap_alloc_last w _
  have HSP : Hid (splice (Ints.zeros len) 0 cs = zs.map (Value.int .u8)) := by show _ = _; rw [Ints.splice_all len cs HL.out, HC.out]
  have HB : Hid (Below w.heap.size w (w.alloc (.cells (madeCells #[.int .u8 0] len) 5))) := hb0
  have HN : Hid (cs.length = Nat.min len len) := by show _ = _; rw [HL.out]; exact (Nat.min_self _).symm
  have HFit : Hid (0 + cs.length ≤ (Ints.zeros len).length) := by show _ ≤ _; rw [HL.out]; simp [Ints.zeros]
  have HZ := Lib.hid hz
  clear hb0 hcell hx hz
  go_enter Tryd.func6, Tryd.ntmps6
  go_wp2_with (show wpList _ _ _ ({ dst := some 11, op := _, type := _, pos := _, after := _, guard := _ } :: _) _ _; go_must (refine wpList_copy_splice rfl _ _ 22 22 rfl 5 Tryd.underlying22 Ints.dec_size5 _ _ _ _ _ _ rfl rfl w.heap.size 0 (Ints.zeros len) 5 hg.out cs HN.out (fun _ => ⟨rfl, x, rfl, hsrc.out⟩) HFit.out h1.out w.heap.size w HB.out (Nat.le_refl _) ?_; intro w2 HG hB))
  have hG := HG.out
  rw [HSP.out] at hG
  have HG2 := Lib.hid hG
  clear hG HG
  go_ret
  have ho : w2.ownsRow 0 5 1 (.slice (some ⟨w.heap.size, 0, none⟩) len len) len (zs.map (Value.int .u8)) := by
    refine ⟨by rw [List.length_map, HZ.out, Nat.mul_one], .inr ⟨w.heap.size, len, _, rfl, Nat.zero_le _, HG2.out, Nat.le_refl _, by unfold maxLen; omega, by simp [HZ.out], ?_⟩⟩
    rw [List.take_of_length_le (by simp [HZ.out])]
  exact ⟨some ⟨w.heap.size, 0, none⟩, rfl, .inr ⟨ho, _, rfl⟩, ho, hB⟩
end Go.Proofs.Qxb6604222aDoor.Full
