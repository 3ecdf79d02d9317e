/-
  The walk of FnAppendDecimalNegativeIsMinusThenPositive.
-/
import Derived.Test.Qxb6604222aDoorEq
namespace Go.Proofs.Qxb6604222aDoor.Bufs
open Go.RowKit Go.Sort Go.Lib
set_option linter.unusedVariables false

set_option maxHeartbeats 2000000 in
theorem negLaw (u : Nat) (e : Int) (hu1 : 1 ≤ u) (hu : u ≤ 9223372036854775807) (he1 : -9223372036854775808 ≤ e) (he2 : e ≤ 9223372036854775807) (w : World)
    (htab : Lib.TabIs Tryd.prog w pow10Name .u64 Lib.pow10Tab) :
    Calls Tryd.prog 4 #[.int .i64 u, .int .i64 e] w fun r w' => r = .returned (.bool true) ∧ Below w.heap.size w w' := by
  obtain ⟨L, hL, hL2⟩ := body_bytes u e
  obtain ⟨l1, l2⟩ := body_len u e (by omega) he1 he2
  have HT := Lib.hid htab
  have HL := Lib.hid hL
  have HLen : Hid (L.length = (body u e).length) := by show _ = _; rw [hL]; simp
  obtain ⟨n, Hn⟩ : ∃ n, Hid (n = (body u e).length) := ⟨_, rfl⟩
  rw [← Hn.out] at l1 l2
  clear htab hL
  go_enter Tryd.func4, Tryd.ntmps4
  go_wp2_with fail
  refine (zzAppend_pos u e hu he1 he2 w.heap.size 0 (.slice none 0 0) [] w (World.ownsRow_nil _ _ _ _) (Nat.le_refl _) (by omega) (Lib.tabBelow_of_tabIs HT.out)).mono ?_
  rintro r W1 ⟨v1, rfl, h1, hb1⟩
  have h1' : W1.ownsRow w.heap.size 5 1 v1 n (L.map (Value.int .u8)) := by rw [HL.out] at h1; rw [Hn.out, ← HLen.out]; simpa using h1
  have H1 := Lib.hid h1'
  have HB1 := Lib.hid hb1
  obtain ⟨g1, cap1, rfl, hc1, hm1, _, _⟩ := owns_bytes h1' l1 hL2
  have HT1 : Hid (Lib.TabIs Tryd.prog W1 pow10Name .u64 Lib.pow10Tab) := Lib.tabBelow_of_tabIs HT.out W1 hb1
  clear h1 h1' hb1
  go_wp2_with fail
  refine (zzAppend_neg u e hu1 (by omega) he1 he2 W1.heap.size 0 (.slice none 0 0) [] W1 (World.ownsRow_nil _ _ _ _) (Nat.le_refl _) (by omega) (Lib.tabBelow_of_tabIs HT1.out)).mono ?_
  rintro r W2 ⟨v2, rfl, h2, hb2⟩
  have h2' : W2.ownsRow W1.heap.size 5 1 v2 (1 + n) ((45 :: L).map (Value.int .u8)) := by rw [HL.out] at h2; rw [Hn.out, ← HLen.out]; simpa using h2
  obtain ⟨g2, cap2, rfl, hc2, hm2, _, hby2⟩ := owns_bytes h2' (by omega) (by
    intro z hz
    rcases List.mem_cons.1 hz with rfl | hz
    · omega
    · exact hL2 z hz)
  have k1 := owns_below H1.out hb2
  obtain ⟨g1', cap1', he, _, _, _, hby1⟩ := owns_bytes k1 l1 hL2
  have hby1' : Bytes W2 g1 0 n (fun i => L.getD i 0) := by
    simp at he
    obtain ⟨rfl, rfl⟩ := he
    exact hby1
  have hbr : Bytes W2 g2 1 n (fun i => L.getD i 0) := by
    have := bytes_shift hby2
    intro i hi
    have h := this i hi
    simp only [] at h
    rw [show (45 :: L).getD (1 + i) 0 = L.getD i 0 by rw [Nat.add_comm]; simp] at h
    exact h
  have hc0 : W2.cell? ⟨g2, 0, none⟩ = some (.int .u8 45) := (hby2 0 (by omega)).1
  have S1 : Sl W2 (some ⟨g1, 0, none⟩) n (fun i => L.getD i 0) := .inr ⟨_, _, rfl, hby1'⟩
  have S2 : Sl W2 (some ⟨g2, 1, none⟩) n (fun i => L.getD i 0) := .inr ⟨_, _, rfl, hbr⟩
  have HB2 : Hid (Below w.heap.size w W2) := HB1.out.trans (hb2.mono HB1.out.size)
  clear h2 h2' hby2 k1 hby1 hby1' hbr hb2 he
  have ecap : cap2 ≠ 1 := by omega
  go_wp2_with (go_at_call 9; go_must (refine (equal_any _ _ n _ _ (fun i => L.getD i 0) _ (by omega) S2 S1).mono ?_; rintro r W3 ⟨rfl, q, rfl⟩))
  go_ret
  exact ⟨rfl, below_drewN HB2.out _⟩

theorem negLaw_any (a0 e : Int) (h1 : -9223372036854775808 ≤ a0) (h2 : a0 ≤ 9223372036854775807) (he1 : -9223372036854775808 ≤ e) (he2 : e ≤ 9223372036854775807) (w : World)
    (htab : Lib.TabIs Tryd.prog w pow10Name .u64 Lib.pow10Tab) :
    Calls Tryd.prog 4 #[.int .i64 a0, .int .i64 e] w fun r w' => r = .returned (.bool true) ∧ Below w.heap.size w w' := by
  by_cases hp : a0 ≤ 0
  · clear htab
    go_enter Tryd.func4, Tryd.ntmps4
    go_wp2
    go_ret
    exact ⟨rfl, Below.refl _ _⟩
  · obtain ⟨u, rfl⟩ : ∃ u : Nat, a0 = (u : Int) := ⟨a0.toNat, by omega⟩
    exact negLaw u e (by omega) (by omega) he1 he2 w htab
end Go.Proofs.Qxb6604222aDoor.Bufs
