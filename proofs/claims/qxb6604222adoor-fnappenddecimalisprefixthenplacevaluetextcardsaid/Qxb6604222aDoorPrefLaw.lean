/-
  The walk of FnAppendDecimalIsPrefixThenPlaceValueText itself.
-/
import Derived.Test.Qxb6604222aDoorPrefWalk
namespace Go.Proofs.Qxb6604222aDoor.Full
open Go.RowKit Go.Sort Go.Lib Bufs
set_option linter.unusedVariables false

theorem sl_drew {w : World} {a : Option Addr} {len : Nat} {f : Nat → Int} (h : Sl w a len f) (n : Nat) : Sl (w.drewN n) a len f := by
  rcases h with h | ⟨b, off, rfl, h⟩
  · exact .inl h
  · refine .inr ⟨b, off, rfl, fun i hi => ?_⟩
    have := h i hi
    simpa using this

/-- the bytes of an owned text, empty or not -/
theorem owns_sl {w : World} {base n : Nat} {a : Option Addr} {cap : Nat} {zs : List Int} (h : w.ownsRow base 5 1 (.slice a n cap) n (zs.map (Value.int .u8))) (hz : ∀ z ∈ zs, 0 ≤ z ∧ z ≤ 255) : Sl w a n (fun i => zs.getD i 0) := by
  by_cases hn : n = 0
  · exact .inl hn
  · obtain ⟨g, cap', he, _, _, _, hby⟩ := owns_bytes h (by omega) hz
    simp at he
    obtain ⟨rfl, rfl⟩ := he
    exact .inr ⟨g, 0, rfl, hby⟩

/-- 's[k:]' -/
theorem run_cut (g k T cap : Nat) (h2 : k < cap) (w : World) :
    (Instr.slice 22 (.slice (some ⟨g, 0, none⟩) (k + T) cap) (some (.int .i64 (k : Int))) none none).run Tryd.prog w = .ok (.slice (some ⟨g, k, none⟩) T (cap - k)) w := by
  rw [run_slice_l w 22 (some ⟨g, 0, none⟩) (k + T) cap (by simp [Program.elem, Tryd.underlying22]) .i64 (k : Int) (by omega) (by omega)]
  have e : Tryd.prog.elem 22 = 5 := by simp [Program.elem, Tryd.underlying22]
  have h3 : cap ≠ k := by omega
  rw [e, Ints.run_size5]
  by_cases h0 : k = 0
  · subst h0; simp [Result.andThen, sliced, Addr.add]
  · simp [Result.andThen, sliced, Addr.add, h0, h3]

set_option maxHeartbeats 4000000 in
/-- the law, its argument cloned by the given contract -/
theorem prefLaw (a : Option Addr) (len cap : Nat) (zs : List Int) (m e : Int) (w : World) (hl : len ≤ 1048576) (hz : zs.length = len) (hwz : ∀ z ∈ zs, 0 ≤ z ∧ z ≤ 255)
    (hm1 : -9223372036854775808 ≤ m) (hm2 : m ≤ 9223372036854775807) (he1 : -9223372036854775808 ≤ e) (he2 : e ≤ 9223372036854775807)
    (hcl : Calls Tryd.prog 6 #[.slice a len cap] w fun r w' => ∃ a', r = .returned (.slice a' len len) ∧ IsClone w w' a' len zs)
    (htab : Lib.TabIs Tryd.prog w pow10Name .u64 Lib.pow10Tab) :
    Calls Tryd.prog 3 #[.slice a len cap, .int .i64 m, .int .i64 e] w fun r w' => r = .returned (.bool true) ∧ Below w.heap.size w w' := by
  obtain ⟨L, hL, hL2⟩ := ft_bytes m e
  obtain ⟨l1, l2⟩ := ft_len m e hm1 hm2 he1 he2
  have HCL := Lib.hid hcl
  have HT := Lib.hid htab
  have HL := Lib.hid hL
  have HZ := Lib.hid hz
  obtain ⟨T, HT2⟩ : ∃ T, Hid (T = (ft m e).length) := ⟨_, rfl⟩
  rw [← HT2.out] at l1 l2
  clear hcl htab hL hz
  go_enter Tryd.func3, Tryd.ntmps3
  go_wp2_with (go_at_call 5; go_must (refine (zzBytes_yes _ _ _ _ _ _ hl).mono ?_; rintro r w1 ⟨rfl, hw1⟩; obtain rfl := hw1.symm; clear hw1))
  refine HCL.out.mono ?_
  rintro r W1 ⟨a', rfl, hc⟩
  go_wp2_with fail
  refine (zzFull_any m e hm1 hm2 he1 he2 len _ _ W1 hc.apd (by omega) (Lib.tabBelow_of_tabIs HT.out W1 hc.bel)).mono ?_
  rintro r W2 ⟨v1, rfl, h1, hb1⟩
  have h1' : W2.ownsRow W1.heap.size 5 1 v1 (len + T) ((zs ++ L).map (Value.int .u8)) := by
    refine owns_eq h1 (by rw [HT2.out]) ?_
    rw [HL.out, List.map_append]
  obtain ⟨g1, cap1, rfl, hc1, hm1', _, _⟩ := owns_bytes h1' (by omega) (by
    intro z hz
    rcases List.mem_append.1 hz with h | h
    · exact hwz z h
    · exact hL2 z h)
  have H1 := Lib.hid h1'
  have HB1 := Lib.hid hb1
  have HC := Lib.hid hc
  clear h1 h1' hb1 hc
  go_wp2_with fail
  refine (decText_any m e hm1 hm2 he1 he2 W2).mono ?_
  rintro r W3 ⟨v2, rfl, h2, hb2⟩
  have h2' : W3.ownsRow W2.heap.size 5 1 v2 T (L.map (Value.int .u8)) := by
    refine owns_eq h2 (by rw [HT2.out]) ?_
    rw [HL.out]
  obtain ⟨g2, cap2, rfl, hc2, hm2', _, hby2⟩ := owns_bytes h2' l1 hL2
  have k1 := owns_below H1.out hb2
  have k0 := owns_below (owns_below HC.out.old HB1.out) hb2
  obtain ⟨g1', cap1', he, _, _, hlen1, hby1⟩ := owns_bytes k1 (by omega) (by
    intro z hz
    rcases List.mem_append.1 hz with h | h
    · exact hwz z h
    · exact hL2 z h)
  simp at he
  obtain ⟨rfl, rfl⟩ := he
  have S0 : Sl W3 a' len (fun i => zs.getD i 0) := owns_sl k0 hwz
  have S1 : Sl W3 (some ⟨g1, 0, none⟩) len (fun i => zs.getD i 0) := by
    refine .inr ⟨g1, 0, rfl, fun i hi => ?_⟩
    have h := hby1 i (by omega)
    simp only [] at h
    rw [show (zs ++ L).getD i 0 = zs.getD i 0 by
      have : i < zs.length := by rw [HZ.out]; exact hi
      simp [List.getD, List.getElem?_append_left this]] at h
    exact h
  have S2 : Sl W3 (some ⟨g1, len, none⟩) T (fun i => L.getD i 0) := by
    refine .inr ⟨g1, len, rfl, fun i hi => ?_⟩
    have h := bytes_shift (k := len) (n := T) hby1 i hi
    simp only [] at h
    rw [show (zs ++ L).getD (len + i) 0 = L.getD i 0 by
      simp [List.getD, List.getElem?_append_right, HZ.out]] at h
    exact h
  have S3 : Sl W3 (some ⟨g2, 0, none⟩) T (fun i => L.getD i 0) := .inr ⟨g2, 0, rfl, hby2⟩
  have HB3 : Hid (Below w.heap.size w W3) := HC.out.bel.trans (((HB1.out.mono HC.out.bel.size)).trans (hb2.mono (Nat.le_trans HC.out.bel.size HB1.out.size)))
  clear h2 h2' hby2 k1 k0 hby1 hb2 hlen1
  have hcut := run_cut g1 len T cap1 (by omega)
  go_wp2_with fail
  refine (equal_any _ _ len _ _ (fun i => zs.getD i 0) W3 (by omega) S1 S0).mono ?_
  rintro r W4 ⟨rfl, q, rfl⟩
  go_wp2_with fail
  refine (equal_any _ _ T _ _ (fun i => L.getD i 0) _ (by omega) (sl_drew S2 q) (sl_drew S3 q)).mono ?_
  rintro r W4 ⟨rfl, q2, rfl⟩
  go_wp2
  go_ret
  exact ⟨rfl, below_drewN HB3.out _⟩

/-- too long: the law itself says yes -/
theorem prefLaw_out (a : Option Addr) (len cap : Nat) (m e : Int) (w : World) (hl : 1048576 < len) :
    Calls Tryd.prog 3 #[.slice a len cap, .int .i64 m, .int .i64 e] w fun r w' => r = .returned (.bool true) ∧ Below w.heap.size w w' := by
  go_enter Tryd.func3, Tryd.ntmps3
  go_wp2_with (go_at_call 5; go_must (refine (zzBytes_no _ _ _ _ _ _ hl).mono ?_; rintro r w1 ⟨rfl, hw1⟩; obtain rfl := hw1.symm; clear hw1))
  go_ret
  exact ⟨rfl, Below.refl _ _⟩
end Go.Proofs.Qxb6604222aDoor.Full
