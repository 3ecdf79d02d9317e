/-
  The row of FnAppendDecimalIsPrefixThenPlaceValueText, and its tied card. After the guide's worked example Mapy.
-/
import Derived.Test.Qxb6604222aDoorRows
import Derived.Test.Qxb6604222aDoorTie
import Derived.Test.Qxb6604222aDoorCards
import Derived.Test.Qxb6604222aDoorPrefLaw
import Derived.ChangeOld
import Derived.Below
import Derived.ProofKit
import Derived.LaidMore
import Derived.OpenShut
import Derived.Stop.Joined
import Derived.SevenTiedAt
import Derived.Lib.LaidTab
import Derived.Stop.LaidErr
namespace Go.Proofs.Qxb6604222aDoor.fnAppendDecimalIsPrefixThenPlaceValueText
open Go.ChangeShapes Go.WideShapes Go.ChangeAt Go.WideMaps Go.WideElems Go.RowKit
set_option linter.unusedVariables false

theorem own : ownKnob Tryd.prog.godebug = none := by kernel_rfl
theorem laidOut : laidOutB Tryd.prog = true := by kernel_rfl
abbrev lst : List (String × DataW Unit) := Rows.fnAppendDecimalIsPrefixThenPlaceValueTextRow.laid
theorem gPow : Tryd.prog.globalNamed pow10Name = some 0 := by kernel_rfl
theorem tPow : (Tryd.prog.globals[0]?).map (·.type) = some 47 := by kernel_rfl
theorem cells32 : Tryd.prog.cellsOf 32 = 1 := by kernel_rfl
theorem cells47 : Tryd.prog.cellsOf 47 = 20 := by kernel_rfl
theorem pow_data : (Rows.laid_internal_strconv_uint64pow10 : DataW Unit) = Lib.tabData .u64 Lib.pow10Tab := by kernel_rfl

/-- what the condition gives the walk: the table of powers of ten -/
theorem of_laid {W : World} (h : laidMetH Tryd.prog lst W) : Lib.TabIs Tryd.prog W pow10Name .u64 Lib.pow10Tab := by
  rw [MakeChecks.laidMetH_plain _ _ _ (by kernel_rfl)] at h
  have h2 := laidMet.tail (laidMet.tail h)
  have h3 : laidMet Tryd.prog ((pow10Name, Lib.tabData .u64 Lib.pow10Tab) :: []) W := by rw [← pow_data]; exact h2
  exact Lib.tabIs_of_head gPow tPow Tryd.underlying47 Tryd.underlying32 cells32 cells47 h3

theorem door_met (os : Os) (args : Array Value) : laidMetH Tryd.prog lst ((World.doorLaid Tryd.prog 24 os).forCall (fun _ _ => 0) ⟨#[], args, []⟩).memory :=
  laidMetH_of_parts3 (fuel := 8) (laidMet_of_run' 8 (by kernel_rfl) (by kernel_rfl)) (by kernel_rfl) (by kernel_rfl)

set_option maxRecDepth 100000 in
theorem lifted (os : Os) (started : os.Started) (H : Type) (enc : TypeId × Value → H) :
    ReturnsInHanded {} Tryd.checked os 3 .any (fun w args => (Rows.fnAppendDecimalIsPrefixThenPlaceValueTextSpec.pre enc Tryd.prog Tryd.f3 [] false w args ∧ laidMetH Tryd.prog lst w) ∧ sizedMet enc Tryd.prog Tryd.f3 (OpenSpec.ofChange Rows.fnAppendDecimalIsPrefixThenPlaceValueTextSpec) false w args)
      (Rows.fnAppendDecimalIsPrefixThenPlaceValueTextSpec.post enc Tryd.prog Tryd.f3 false true false false) := by
  refine returnsInHanded_of_change_and (C := Tryd.checked) (X := fun w _ => laidMetH Tryd.prog lst w) (fun _ _ _ hh h => h.of_heap hh) own started (by kernel_rfl) Tryd.func3
    (ChangeSpec.witness_shaped (enc := enc) (C := Tryd.checked) (os := os) (X := fun w _ => laidMetH Tryd.prog lst w) false (World.doorLaid Tryd.prog 24 os) #[.slice none 0 0, .int .i64 0, .int .i64 0] 8 rfl (World.shaped_of_RefB (by kernel_rfl) (by kernel_rfl)) (by kernel_rfl) (by kernel_rfl) (by kernel_rfl) (door_met os _)) ?_
  intro W base args ds gs before hval0 hW _ _ hL _
  have hval : ∀ (j : Nat) t v, Tryd.f3.params[j]? = some t → args[j]? = some v → Value.okWide Tryd.prog W .any base t v := hval0
  have hW' := hW
  obtain ⟨p, q, hA0, hV, rfl, hfz, hnd⟩ := hW
  have hA : DataW.TrodAll enc Tryd.prog W 0 (fun _ => true) true Tryd.f3.params.toList args.toList ds p := hA0
  rw [Tryd.params3] at hA hval
  obtain ⟨v0, vs0, d0, ds0, p0, q0, hargs, rfl, rfl, h0, r0⟩ := trodAll_cons hA
  obtain ⟨v1, vs1, d1, ds1, p1, q1, rfl, rfl, rfl, h1, r1⟩ := trodAll_cons r0
  obtain ⟨v2, vs2, d2, ds2, p2, q2, rfl, rfl, rfl, h2, r2⟩ := trodAll_cons r1
  obtain ⟨rfl, rfl, rfl⟩ := trodAll_nil r2
  obtain rfl : args = #[v0, v1, v2] := by cases args; simp_all
  obtain ⟨rfl, rfl⟩ := trodVars_none hV
  obtain ⟨a1, rfl, rfl, rfl, w1⟩ := open_int Tryd.underlying2 (hval 1 2 v1 rfl rfl) h1
  obtain ⟨a2, rfl, rfl, rfl, w2⟩ := open_int Tryd.underlying2 (hval 2 2 v2 rfl rfl) h2
  obtain ⟨a0, len0, cap0, rfl⟩ := okWide_slice Tryd.underlying22 (hval 0 22 v0 rfl rfl)
  have k0 := h0
  have lt0 : ∀ x ∈ p0, x.block < W.heap.size := by obtain ⟨m, hm⟩ := k0; exact DataW.trod_lt m _ _ _ hm
  have b1 := bounds_i64 w1
  have b2 := bounds_i64 w2
  have hwalk : Calls Tryd.prog 3 #[.slice a0 len0 cap0, .int .i64 a1, .int .i64 a2] W fun r w' => r = .returned (.bool true) ∧ Below W.heap.size W w' := by
    obtain ⟨fuel, hf⟩ := h0
    by_cases hbig : 1048576 < len0
    · exact Full.prefLaw_out a0 len0 cap0 a1 a2 W hbig
    · rcases open_ints Tryd.underlying22 Tryd.underlying5 (by kernel_rfl) hf with ⟨hcs, _⟩ | ⟨x, l, c, zs, hcs, _, hl, hm, hz, _, hcell, hwz⟩
      · simp [Value.cells] at hcs
        obtain ⟨rfl, rfl, rfl⟩ := hcs
        exact Full.prefLaw none 0 0 [] a1 a2 W (by omega) rfl (by simp) b1.1 b1.2 b2.1 b2.2 (Full.clone_nil W) (of_laid hL)
      · simp [Value.cells] at hcs
        obtain ⟨rfl, rfl, rfl⟩ := hcs
        have hz' : zs.length = cap0 := by simpa using hz
        have hbd : ∀ z ∈ zs.take len0, 0 ≤ z ∧ z ≤ 255 := fun z hzz => by have := bounds_u8 (hwz z (List.mem_of_mem_take hzz)); omega
        refine Full.prefLaw (some x) len0 cap0 (zs.take len0) a1 a2 W (by omega) (by simp; omega) hbd b1.1 b1.2 b2.1 b2.2 (Full.clone_some x len0 cap0 (zs.take len0) W (by omega) (by simp; omega) ?_ ?_) (of_laid hL)
        · intro i hi
          have hi' : i < len0 := by simp at hi; omega
          have := hcell i (by omega)
          rw [this]
          simp [List.getD, hi']
        · intro hp
          have := hcell 0 (by omega)
          have hb := World.block_lt_of_cell? _ _ this
          simpa [Addr.add] using hb
  clear hA0 hval0
  refine hwalk.mono fun e W' ⟨he, bel⟩ => ?_
  subst he
  exact ⟨_, rfl, _, _, _, [], _, [], hW', trodAll_mk1 (shut_bool Tryd.underlying4 _), (trodAll_cons_mk (Below.trod laidOut (by kernel_rfl) (of_decide_eq_true (by kernel_rfl)) k0 bel lt0) (trodAll_cons_mk (shut_int Tryd.underlying2 w1) (trodAll_cons_mk (shut_int Tryd.underlying2 w2) trodAll_mk0))), rfl, bel.frame _, fun h => by cases h⟩

theorem row_holds : Rows.FnAppendDecimalIsPrefixThenPlaceValueTextSaid :=
  OpenClaim.holds_of_wide 3 Tryd.f3 rfl rfl rfl rfl rfl rfl rfl ⟨rfl, rfl, rfl, rfl, rfl⟩ rfl rfl rfl rfl rfl (by kernel_rfl) Tryd.func3 (by kernel_rfl)
    (of_decide_eq_true (by kernel_rfl)) (by unfold Func.isWrapper; first | (rw [if_pos (by decide +kernel)]; kernel_rfl) | (rw [if_neg (by decide +kernel)]; exact ⟨rfl, rfl⟩))
    (fun os started H enc _ => lifted os started H enc)

/-- the card -/
theorem proved : Rows.FnAppendDecimalIsPrefixThenPlaceValueTextCardSaid :=
  Claim7.holds_tied_plain_at .later [] [.data, .data, .data] true Rows.fnAppendDecimalIsPrefixThenPlaceValueTextCard.stood.harness false
    row_holds (fun _ h => by cases h) (by kernel_rfl) (fun _ h => by cases h) fnAppendDecimalIsPrefixThenPlaceValueText_row_tie rfl ⟨rfl, rfl⟩ (by kernel_rfl) rfl
    (fun f fn hf hfn => by
      obtain rfl : f = 3 := Option.some.inj ((show Tryd.prog.funcNamed Rows.fnAppendDecimalIsPrefixThenPlaceValueTextRow.func = some 3 by kernel_rfl).symm.trans hf) |>.symm
      obtain rfl : fn = Tryd.f3 := (Option.some.inj (Tryd.func3.symm.trans hfn)).symm
      exact ⟨by kernel_rfl, fun j t ht => by
        rw [Tryd.params3] at ht
        have hm : t ∈ [22, 2, 2] := by simpa using Array.mem_of_getElem? ht
        have hall : ([22, 2, 2].all fun u => !Tryd.prog.wantsStandIn u) = true := by kernel_rfl
        exact (show Tryd.prog.wantsStandIn t = false by simpa using List.all_eq_true.1 hall t hm)⟩)
    (by kernel_rfl)
end Go.Proofs.Qxb6604222aDoor.fnAppendDecimalIsPrefixThenPlaceValueText
