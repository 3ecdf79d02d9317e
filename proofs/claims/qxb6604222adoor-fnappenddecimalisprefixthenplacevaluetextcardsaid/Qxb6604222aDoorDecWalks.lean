/-
  The walks of zzDecimalUint and zzDecimalInt64.
-/
import Derived.Test.Qxb6604222aDoorRows
import Derived.WalkKit
import Derived.ProofKit
import Derived.OwnWalk
import Derived.Below
import Derived.WalkSpells
import Derived.Deep.OwnRows
import Derived.Laws.CopyOwn
import Derived.Outline
import Derived.Deep.DeepMust
import Derived.Deep.WholeRow
import Derived.Laws.OwnMore
import Derived.Test.Qxb6604222aDoorDecPlain
namespace Go.Proofs.Qxb6604222aDoor.Ints
open Go.ChangeShapes Go.WideShapes Go.ChangeAt Go.RowKit
set_option linter.unusedVariables false

theorem dec_info5 : (Tryd.prog.info? 5).map (fun i => (i.zero, i.size, i.bytes)) = some (some (.int .u8 0), 1, 1) := by kernel_rfl
theorem dec_size5 : (Tryd.prog.info? 5).map (·.size) = some 1 := by kernel_rfl

def zeros (n : Nat) : List Value := List.replicate n (.int .u8 0)
theorem zeros_made (n : Nat) : (zeros n).toArray = madeCells #[.int .u8 0] n := by
  unfold zeros; rw [← toList_madeCells_one]
theorem splice_all (n : Nat) (cs : List Value) (h : cs.length = n) : splice (zeros n) 0 cs = cs := by
  simp [splice, zeros, h]

/-- u's text as cells -/
def decCells (u : Int) (n : Nat) : List Value := (decs u n).map (Value.int .u8)
theorem decCells_length (u : Int) (n : Nat) : (decCells u n).length = n := by simp [decCells, decs_length]
theorem decCells_get (u : Int) (n j : Nat) (v : Value) (h : (decCells u n)[j]? = some v) : j < n ∧ v = .int .u8 (dg u n j) := by
  have hj : j < n := by
    have := (List.getElem?_eq_some_iff.1 h).1
    rwa [decCells_length] at this
  refine ⟨hj, ?_⟩
  have e : (decs u n)[j]? = some (dg u n j) := by simp [decs, List.getElem?_map, List.getElem?_range hj]
  simp [decCells, e] at h
  exact h.symm
theorem decCells_one (u : Int) (n : Nat) : ∀ v ∈ decCells u n, v.oneCell' = true := by
  intro v hv
  simp only [decCells, List.mem_map] at hv
  obtain ⟨z, _, rfl⟩ := hv
  rfl

/-- the buffer behind k rounds -/
def BufAt (u : Int) (k : Nat) (cs : Array Value) : Prop := cs.size = 20 ∧ ∀ j, j < k → cs[19 - j]? = some (.int .u8 (48 + uAt u j % 10))
theorem BufAt.step {u : Int} {k : Nat} {cs : Array Value} (h : BufAt u k cs) (hk : k ≤ 19) : BufAt u (k + 1) (cs.setIfInBounds (20 - k - 1) (.int .u8 (48 + uAt u k % 10))) := by
  refine ⟨by simp [h.1], fun j hj => ?_⟩
  have hs := h.1
  by_cases e : j = k
  · subst e
    rw [show 20 - j - 1 = 19 - j by omega, Array.getElem?_setIfInBounds_self_of_lt (by omega)]
  · rw [Array.getElem?_setIfInBounds_ne (by omega)]
    exact h.2 j (by omega)

theorem run_size5 (w : World) : (sizeOf 5).run Tryd.prog w = .ok 1 w := by kernel_rfl
theorem arr36 : Tryd.prog.arrayLen 36 = 20 := by simp [Program.arrayLen, Tryd.underlying36]
theorem elem36 : Tryd.prog.elem 36 = 5 := by simp [Program.elem, Tryd.underlying36]
/-- 'buf[l:]' -/
theorem run_buf (b l : Nat) (hl : l ≤ 19) (w : World) :
    (Instr.sliceAt 36 (.pointer (some ⟨b, 0, none⟩)) (some (.int .i64 (l : Int))) none none).run Tryd.prog w = .ok (.slice (some ⟨b, l, none⟩) (20 - l) (20 - l)) w := by
  have h := run_sliceAt_array_l (P := Tryd.prog) w 36 ⟨b, 0, none⟩ (by rw [arr36, elem36]; exact Tryd.underlying36) .i64 (l : Int) (by omega) (by rw [arr36]; omega)
  rw [h, elem36, run_size5, arr36]
  have e : (20 : Nat) ≠ l := by omega
  by_cases h0 : l = 0
  · subst h0; simp [slicedAt, Addr.add, Result.andThen]
  · simp [slicedAt, Addr.add, Result.andThen, e, h0]

theorem cell2_old (w : World) (A B : Array Value) (t t' : TypeId) (j : Nat) : ((w.alloc (.cells A t)).alloc (.cells B t')).cell? ⟨w.heap.size, j, none⟩ = A[j]? := by
  have h := heap_alloc2_old w (.cells A t) (.cells B t')
  simp [World.cell?, h]

set_option maxHeartbeats 1000000 in
theorem decUint_any (u : Int) (w : World) (h1 : 0 ≤ u) (h2 : u ≤ 18446744073709551615) :
    Calls Tryd.prog 11 #[.int .u64 u] w fun e w' => ∃ n, Wide u n ∧ e = .returned (.slice (some ⟨w.heap.size + 1, 0, none⟩) n n) ∧ w'.heap[w.heap.size + 1]? = some (.cells (decCells u n).toArray 5 (0, 0)) ∧ Below w.heap.size w w' := by
  go_enter Tryd.func11, Tryd.ntmps11
  go_wp2
  go_loopw [0, 4] (fun x i wr => ∃ (k : Nat) (cs : Array Value), k ≤ 19 ∧ BufAt u k cs ∧ (k = 0 ∨ uAt u k ≠ 0) ∧ i = .int .i64 (20 - (k : Int)) ∧ x = .int .u64 (uAt u k) ∧ wr = w.alloc (.cells cs 36)) (fun _ i _ => (intOf i).toNat)
  case atStart => exact ⟨0, _, by omega, ⟨rfl, fun j hj => by omega⟩, .inl rfl, by go_num, rfl, rfl⟩
  case round =>
    obtain ⟨k, cs, hk, hbuf, hful, rfl, rfl, rfl⟩ := hrel
    have z1 := uAt_nonneg u h1 k
    have z2 := Int.le_trans (uAt_le u h1 k) h2
    obtain ⟨v0, hv0⟩ : ∃ v, cs[20 - k - 1]? = some v := ⟨_, Array.getElem?_eq_getElem (by have := hbuf.1; omega)⟩
    have HB := hbuf.step hk
    have HF : Hid (k = 0 ∨ uAt u k ≠ 0) := hful
    clear hbuf hful
    have HU : Hid (uAt u (k + 1) = uAt u k / 10) := uAt_succ u k
    by_cases hz : uAt u k / 10 = 0
    · have HW : Hid (Wide u (k + 1)) := by
        refine ⟨by omega, by omega, by rw [HU.out, hz], ?_⟩
        rcases HF.out with e | e
        · left; omega
        · right; rw [Nat.add_sub_cancel]; exact e
      have hmk := run_make_row' (P := Tryd.prog) 22 5 (.int .u8 0) 1 Tryd.underlying22 dec_info5 rfl .i64 .i64 (k + 1) (by omega) (by omega)
      have ec : (((k + 1 : Nat)) : Int) = 20 - (20 - (k : Int) - 1) := by omega
      rw [ec] at hmk
      clear ec
      have hsl := run_buf w.heap.size (20 - k - 1) (by omega)
      have ec : ((20 - k - 1 : Nat) : Int) = 20 - (k : Int) - 1 := by omega
      rw [ec, show 20 - (20 - k - 1) = k + 1 by omega] at hsl
      clear ec
      obtain ⟨X, HX⟩ : ∃ X, Hid (X = decCells u (k + 1)) := ⟨_, rfl⟩
      have HL : Hid (X.length = Nat.min (k + 1) (k + 1)) := by show _ = _; rw [HX.out, decCells_length]; exact (Nat.min_self _).symm
      have HFit : Hid (0 + X.length ≤ (zeros (k + 1)).length) := by show _ ≤ _; rw [HX.out, decCells_length]; simp [zeros]
      have H1 : Hid (∀ v ∈ X, v.oneCell' = true) := by show ∀ v ∈ X, _; rw [HX.out]; exact decCells_one _ _
      have HSP : Hid (splice (zeros (k + 1)) 0 X = decCells u (k + 1)) := by show _ = _; rw [HX.out]; exact splice_all _ _ (decCells_length _ _)
      obtain ⟨A, HA⟩ : ∃ A, Hid (A = cs.setIfInBounds (20 - k - 1) (.int .u8 (48 + uAt u k % 10))) := ⟨_, rfl⟩
      have hg : Hid (((w.alloc (.cells (cs.setIfInBounds (20 - k - 1) (.int .u8 (48 + uAt u k % 10))) 36)).alloc (.cells (madeCells #[.int .u8 0] (k + 1)) 5)).heap[w.heap.size + 1]? = some (.cells (zeros (k + 1)).toArray 5 (0, 0))) := by
        show _ = _
        rw [zeros_made]; exact heap_alloc2_new w _ _
      have hbel : Hid (Below w.heap.size w ((w.alloc (.cells (cs.setIfInBounds (20 - k - 1) (.int .u8 (48 + uAt u k % 10))) 36)).alloc (.cells (madeCells #[.int .u8 0] (k + 1)) 5))) :=
        ((Below.refl _ _).alloc (Nat.le_refl _) _).alloc (by simp) _
      have hsrc : Hid (∀ j v, X[j]? = some v → ((w.alloc (.cells (cs.setIfInBounds (20 - k - 1) (.int .u8 (48 + uAt u k % 10))) 36)).alloc (.cells (madeCells #[.int .u8 0] (k + 1)) 5)).cell? ((⟨w.heap.size, 20 - k - 1, none⟩ : Addr).add j) = some v) := by
        intro j v hv
        rw [HX.out] at hv
        obtain ⟨hj, rfl⟩ := decCells_get _ _ _ _ hv
        rw [Go.WideShapes.add_plain, cell2_old]
        have := HB.2 (k - j) (by omega)
        rw [show 20 - k - 1 + j = 19 - (k - j) by omega, this]
        simp [dg]
      go_wp2_with (show wpList _ _ _ ({ dst := some 28, op := _, type := _, pos := _, after := _, guard := _ } :: _) _ _; go_must (refine wpList_copy_splice rfl _ _ 22 22 rfl 5 Tryd.underlying22 dec_size5 _ _ _ _ _ _ rfl rfl (w.heap.size + 1) 0 (zeros (k + 1)) 5 hg.out X HL.out (fun _ => ⟨rfl, _, rfl, hsrc.out⟩) HFit.out H1.out w.heap.size w hbel.out (by omega) ?_; intro w2 HG hB))
      have hG := HG.out
      rw [HSP.out] at hG
      go_ret
      exact ⟨k + 1, HW.out, rfl, hG, hB⟩
    · have hz' : (uAt u k / 10 == 0) = false := by simpa using hz
      have hk18 : k ≤ 18 := by
        by_cases e : k = 19
        · subst e
          have := uAt_20 u h1 h2
          rw [HU.out] at this
          exact absurd this hz
        · omega
      go_wp2
      go_roundw
      case rel => exact ⟨k + 1, _, by omega, HB, .inr (by rw [HU.out]; exact hz), by go_num, by rw [HU.out], rfl⟩
      case measure => simp [intOf]; omega

theorem owns_dec {w : World} {g base n : Nat} {u : Int} (hb : base ≤ g) (hn : n ≤ 20) (h : w.heap[g]? = some (.cells (decCells u n).toArray 5 (0, 0))) : w.ownsRow base 5 1 (.slice (some ⟨g, 0, none⟩) n n) n (decCells u n) := by
  refine ⟨by rw [decCells_length]; omega, .inr ⟨g, n, _, rfl, hb, h, Nat.le_refl _, by unfold maxLen; omega, by simp [decCells_length], ?_⟩⟩
  rw [List.take_of_length_le (by simp [decCells_length])]

theorem decInt64_pos (x : Int) (w : World) (h1 : 0 ≤ x) (h2 : x ≤ 9223372036854775807) :
    Calls Tryd.prog 12 #[.int .i64 x] w fun e w' => ∃ n v, Wide x n ∧ e = .returned v ∧ w'.ownsRow w.heap.size 5 1 v n (decCells x n) ∧ Below w.heap.size w w' := by
  go_enter Tryd.func12, Tryd.ntmps12
  go_wp2_with (go_at_call 11; go_must (refine (decUint_any x _ (by omega) (by omega)).mono ?_; rintro e w' ⟨n, hw, rfl, hg, hb⟩))
  go_ret
  exact ⟨n, _, hw, rfl, owns_dec (by omega) hw.hi hg, hb⟩

theorem wrap_neg (x : Int) (h1 : x < 0) (h2 : -9223372036854775808 ≤ x) : IntKind.u64.wrap (-IntKind.u64.wrap x) = -x := by
  simp [IntKind.wrap, IntKind.bits, IntKind.signed]
  omega

set_option maxHeartbeats 1000000 in
theorem decInt64_neg (x : Int) (w : World) (h1 : x < 0) (h2 : -9223372036854775808 ≤ x) :
    Calls Tryd.prog 12 #[.int .i64 x] w fun e w' => ∃ n v, Wide (-x) n ∧ e = .returned v ∧ w'.ownsRow w.heap.size 5 1 v (1 + n) ([.int .u8 45] ++ decCells (-x) n) ∧ Below w.heap.size w w' := by
  obtain ⟨i0, hi, hz0, hz1, hz2⟩ := info_parts dec_info5
  go_enter Tryd.func12, Tryd.ntmps12
  go_wp2_with fail
  rw [wrap_neg x h1 h2]
  refine (decUint_any (-x) _ (by omega) (by omega)).mono ?_
  rintro e w1 ⟨n, hw, rfl, hg, hb⟩
  have hsz : (w.alloc (.cells #[.int .u8 45] 5)).heap.size = w.heap.size + 1 := by simp
  rw [hsz] at hg hb ⊢
  clear hsz
  have hb0 : w1.heap[w.heap.size]? = some (.cells #[.int .u8 45] 5 (0, 0)) := by rw [hb.block _ (by omega)]; exact heap_alloc_last w _
  have hown : w1.ownsRow w.heap.size 5 1 (.slice (some ⟨w.heap.size, 0, none⟩) 1 1) 1 [.int .u8 45] :=
    ⟨rfl, .inr ⟨w.heap.size, 1, _, rfl, Nat.le_refl _, hb0, Nat.le_refl _, by unfold maxLen; omega, rfl, rfl⟩⟩
  have hnews : ∀ j u, (decCells (-x) n)[j]? = some u → w1.cell? ((⟨w.heap.size + 1 + 1, 0, none⟩ : Addr).add j) = some u := by
    intro j u hu
    rw [Go.WideShapes.add_plain]
    simp [World.cell?, hg, hu]
  have hbel : Below w.heap.size w w1 := ((Below.refl _ _).alloc (Nat.le_refl _) _).trans (hb.mono (by omega))
  have hB : Hid (Below w.heap.size w w1) := hbel
  have hO : Hid (w1.ownsRow w.heap.size 5 1 (.slice (some ⟨w.heap.size, 0, none⟩) 1 1) 1 [.int .u8 45]) := hown
  have hN : Hid (∀ j u, (decCells (-x) n)[j]? = some u → w1.cell? ((⟨w.heap.size + 1 + 1, 0, none⟩ : Addr).add j) = some u) := hnews
  have hn := hw.hi
  clear hg hb hb0 hown hnews hbel
  go_wp2_with (at_builtin; go_must (refine wpList_append_own _ rfl _ _ 22 rfl w.heap.size 5 i0 (.int .u8 0) 1 1 Tryd.underlying22 hi hz0 hz1 hz2 rfl (by decide) _ 1 [.int .u8 45] rfl hO.out ⟨w.heap.size + 1 + 1, 0, none⟩ n n (decCells (-x) n) rfl (by rw [decCells_length]; omega) hN.out (decCells_one _ _) (by unfold maxLen; omega) (by omega) hB.out.size ?_; intro v' w2 hown' hgrow hnil))
  go_ret
  exact ⟨n, v', hw, rfl, hown', hB.out.grown hgrow hB.out.size (fun k hk => by have e : some w.heap.size = some k := hk; simp at e; omega)⟩
end Go.Proofs.Qxb6604222aDoor.Ints
