/-
  THE SHELL OF A PROOF OF 'Rows.FnPlainIntIsTheDecimalOfAtMost18DigitsSaid' ('example.com/treecall/treecall/zzlaws_pkg_cpon_b1.FnPlainIntIsTheDecimalOfAtMost18Digits'), WRITTEN BY PROGRAM (proof-skeleton.mjs, third state) off the guide's own print for that function. Not trusted: Lean checks it.
  The walk is filled in by hand. ALL ELSE IS THE GUIDE's OWN WAY (howto/template/XProofs.lean; Derived/Test/ChunkProofs.lean for 'Below') at this function's number and types: leave it.
-/
import Derived.Test.Qxb6604222aRows
import Derived.WalkKit
import Derived.ProofKit
import Derived.OpenShut
import Derived.ShutString
import Derived.ChangeOld
import Derived.Below
import Derived.WalkSpells
import Derived.Deep.OwnRows
import Derived.Laws.CopyOwn
import Derived.Outline
import Derived.Deep.WholeRow
import Derived.Laws.OwnMore
import Derived.Test.Qxb6604222aIntWalks2
namespace Go.Proofs.Qxb6604222a.fnPlainIntIsTheDecimalOfAtMost18Digits
open Go.ChangeShapes Go.WideShapes Go.ChangeAt Go.RowKit
open Go.ChangeMaps (open_string shut_string)
set_option linter.unusedVariables false

theorem own : ownKnob Try.prog.godebug = none := by kernel_rfl
theorem laidOut : laidOutB Try.prog = true := by kernel_rfl

/-- WHAT THE WALK IS TOLD OF A SLICE OF INTEGERS THAT CAME IN: it is nil; or it leads to a row of 'cap' cells, the numbers 'zs' (the first 'len' are its elements, the rest its spare room), each fitting its kind. -/
def IsRow (k : IntKind) (w : World) (a : Option Addr) (len cap : Nat) (zs : List Int) : Prop :=
  (a = none ∧ len = 0 ∧ cap = 0 ∧ zs = []) ∨
  ∃ x, a = some x ∧ len ≤ cap ∧ cap ≤ maxLen ∧ zs.length = cap ∧ (∀ i, i < zs.length → w.cell? (x.add i) = some (.int k (zs.getD i 0))) ∧ ∀ n ∈ zs, (Lit.int k n).wf = true

/-! ### STEP 1: THE WALK: the Go text returns true, AND WRITES NOTHING THAT WAS THERE: 'Below w.heap.size w w'' (Derived/Below.lean: '.refl', '.alloc', '.drew', '.setCell' at a new block, '.trans'). Open each 'IsRow' by 'rcases' AHEAD of 'go_enter'; part every test ahead of the walk. -/
theorem info5 : (Try.prog.info? 5).map (fun i => (i.zero, i.size, i.bytes)) = some (some (.int .u8 0), 1, 1) := by kernel_rfl
theorem size5 : (Try.prog.info? 5).map (·.size) = some 1 := by kernel_rfl

/-- the bytes of a row that is known whole -/
theorem bytes_row {w : World} {g len : Nat} {zs : List Int} {t : TypeId} (hz : zs.length = len) (hwz : ∀ n ∈ zs, (Lit.int .u8 n).wf = true)
    (h : w.heap[g]? = some (.cells (zs.map (Value.int .u8)).toArray t (0, 0))) : Ints.Bytes w g 0 len (fun i => zs.getD i 0) := by
  intro i hi
  have hi' : i < zs.length := by omega
  refine ⟨?_, ?_⟩
  · simp [World.cell?, h, List.getElem?_eq_getElem hi']
  · have hm : zs.getD i 0 ∈ zs := by simp [List.getD, List.getElem?_eq_getElem hi']
    have := bounds_u8 (hwz _ hm)
    omega

def zeros (n : Nat) : List Value := List.replicate n (.int .u8 0)
theorem zeros_made (n : Nat) : (zeros n).toArray = madeCells #[.int .u8 0] n := by
  unfold zeros; rw [← toList_madeCells_one]
theorem splice_all (n : Nat) (cs : List Value) (h : cs.length = n) : splice (zeros n) 0 cs = cs := by
  simp [splice, zeros, h]

set_option maxHeartbeats 1000000 in
/-- a slice that is not nil: it is copied first -/
theorem walk_some (a0 : Int) (x : Addr) (len cap : Nat) (zs : List Int) (w : World) (ha : a0 = 45 ∨ (48 ≤ a0 ∧ a0 ≤ 57)) (hl : len ≤ 1048576) (hz : zs.length = len)
    (hcell : ∀ i, i < zs.length → w.cell? (x.add i) = some (.int .u8 (zs.getD i 0))) (hwz : ∀ n ∈ zs, (Lit.int .u8 n).wf = true) (hx : 0 < len → x.block < w.heap.size) :
    Calls Try.prog 3 #[.int .u8 a0, .slice (some x) len cap] w fun e w' => e = .returned (.bool true) ∧ Below w.heap.size w w' := by
  have hne := fun (w : World) a n c n' c' => run_neq_slice_nil_any (P := Try.prog) w 22 5 a n c n' c' Try.underlying22
  have hmk := run_make_row' (P := Try.prog) 22 5 (.int .u8 0) 1 Try.underlying22 info5 rfl .i64 .i64 len (by omega) (by omega)
  obtain ⟨cs, HC⟩ : ∃ cs, Hid (cs = zs.map (Value.int .u8)) := ⟨_, rfl⟩
  have hcl : cs.length = len := by rw [HC.out]; simpa using hz
  have HL : Hid (cs.length = len) := hcl
  clear hcl
  have hb0 : Below w.heap.size w (w.alloc (.cells (madeCells #[.int .u8 0] len) 5)) := (Below.refl _ _).alloc (Nat.le_refl _) _
  have hsrc : Hid (∀ j v, cs[j]? = some v → (w.alloc (.cells (madeCells #[.int .u8 0] len) 5)).cell? (x.add j) = some v) := by
    intro j v hv
    rw [HC.out] at hv
    have hj : j < zs.length := by
      have := (List.getElem?_eq_some_iff.1 hv).1
      simpa using this
    have hv' : v = .int .u8 (zs.getD j 0) := by
      simp [List.getElem?_eq_getElem hj] at hv
      simp [List.getD, List.getElem?_eq_getElem hj, hv]
    rw [hv', hb0.cell (p := x.add j) (by have := hx (by omega); unfold Addr.add; split <;> simpa using this)]
    exact hcell j hj
  have h1 : Hid (∀ v ∈ cs, v.oneCell' = true) := by
    intro v hv
    rw [HC.out] at hv
    simp only [List.mem_map] at hv
    obtain ⟨z, _, rfl⟩ := hv
    rfl
  have hg : Hid ((w.alloc (.cells (madeCells #[.int .u8 0] len) 5)).heap[w.heap.size]? = some (.cells (zeros len).toArray 5 (0, 0))) := by
    show _ = _
    rw [zeros_made]; exact heap_alloc_last w _
  have HSP : Hid (splice (zeros len) 0 cs = zs.map (Value.int .u8)) := by show _ = _; rw [splice_all len cs HL.out, HC.out]
  have HB : Hid (Below w.heap.size w (w.alloc (.cells (madeCells #[.int .u8 0] len) 5))) := hb0
  clear hb0 hcell hx
  obtain ⟨f, HF⟩ : ∃ f, Hid (f = fun i => zs.getD i 0) := ⟨_, rfl⟩
  have key : ∀ w' : World, Hid (w'.heap[w.heap.size]? = some (.cells (splice (zeros len) 0 cs).toArray 5 (0, 0))) → Ints.Sl w' (some ⟨w.heap.size, 0, none⟩) len f := by
    intro w' H
    have h := H.out
    rw [HSP.out] at h
    rw [HF.out]
    exact .inr ⟨_, _, rfl, bytes_row hz hwz h⟩
  have HN : Hid (cs.length = Nat.min len len) := by show _ = _; rw [HL.out]; exact (Nat.min_self _).symm
  have HFit : Hid (0 + cs.length ≤ (zeros len).length) := by show _ ≤ _; rw [HL.out]; simp [zeros]
  rcases ha with rfl | ⟨ha1, ha2⟩
  · go_enter Try.func3, Try.ntmps3
    go_wp2_with (first
      | (go_at_call 8; refine (Ints.zzBytes_yes _ _ _ _ _ hl).mono ?_; rintro e w1 ⟨rfl, hw1⟩; obtain rfl := hw1.symm; clear hw1)
      | (show wpList _ _ _ ({ dst := some 34, op := _, type := _, pos := _, after := _, guard := _ } :: _) _ _; refine wpList_copy_splice rfl _ _ 22 22 rfl 5 Try.underlying22 size5 _ _ _ _ _ _ rfl rfl w.heap.size 0 (zeros len) 5 hg.out cs HN.out (fun _ => ⟨rfl, x, rfl, hsrc.out⟩) HFit.out h1.out w.heap.size w HB.out (Nat.le_refl _) ?_; intro w2 HG hB))
    refine (Ints.zzPlainInt_any 45 f _ len _ _ (.inl rfl) (by omega) (key _ HG)).mono ?_
    rintro e w3 ⟨v, ok, rfl, hr, hw3⟩
    obtain rfl := hw3.symm
    clear hw3
    go_wp2_with fail
    refine (Ints.model_any 45 f _ len _ _ (.inl rfl) (by omega) (key _ HG)).mono ?_
    rintro e w3 ⟨v', ok', rfl, hr', hw3⟩
    obtain rfl := hw3.symm
    clear hw3
    obtain ⟨hv, hok⟩ := hr.same hr'
    clear hr hr'
    subst hv hok
    go_wp2
    go_ret
    exact ⟨by simp, hB⟩
  · have e1 : (a0 != 45) = true := by simp; omega
    have e2 : decide (a0 < 48) = false := by simp; omega
    go_enter Try.func3, Try.ntmps3
    go_wp2_with (first
      | (go_at_call 8; refine (Ints.zzBytes_yes _ _ _ _ _ hl).mono ?_; rintro e w1 ⟨rfl, hw1⟩; obtain rfl := hw1.symm; clear hw1)
      | (show wpList _ _ _ ({ dst := some 34, op := _, type := _, pos := _, after := _, guard := _ } :: _) _ _; refine wpList_copy_splice rfl _ _ 22 22 rfl 5 Try.underlying22 size5 _ _ _ _ _ _ rfl rfl w.heap.size 0 (zeros len) 5 hg.out cs HN.out (fun _ => ⟨rfl, x, rfl, hsrc.out⟩) HFit.out h1.out w.heap.size w HB.out (Nat.le_refl _) ?_; intro w2 HG hB))
    refine (Ints.zzPlainInt_any a0 f _ len _ _ (.inr ⟨ha1, ha2⟩) (by omega) (key _ HG)).mono ?_
    rintro e w3 ⟨v, ok, rfl, hr, hw3⟩
    obtain rfl := hw3.symm
    clear hw3
    go_wp2_with fail
    refine (Ints.model_any a0 f _ len _ _ (.inr ⟨ha1, ha2⟩) (by omega) (key _ HG)).mono ?_
    rintro e w3 ⟨v', ok', rfl, hr', hw3⟩
    obtain rfl := hw3.symm
    clear hw3
    obtain ⟨hv, hok⟩ := hr.same hr'
    clear hr hr'
    subst hv hok
    go_wp2
    go_ret
    exact ⟨by simp, hB⟩

set_option maxHeartbeats 1000000 in
/-- the nil slice -/
theorem walk_nil (a0 : Int) (w : World) (ha : a0 = 45 ∨ (48 ≤ a0 ∧ a0 ≤ 57)) :
    Calls Try.prog 3 #[.int .u8 a0, .slice none 0 0] w fun e w' => e = .returned (.bool true) ∧ Below w.heap.size w w' := by
  have hne := fun (w : World) a n c n' c' => run_neq_slice_nil_any (P := Try.prog) w 22 5 a n c n' c' Try.underlying22
  have HSl : Hid (∀ w : World, Ints.Sl w none 0 (fun _ => 0)) := fun _ => .inl ⟨rfl, rfl⟩
  rcases ha with rfl | ⟨ha1, ha2⟩
  · go_enter Try.func3, Try.ntmps3
    go_wp2_with (go_at_call 8; refine (Ints.zzBytes_yes _ _ _ _ _ (by omega)).mono ?_; rintro e w1 ⟨rfl, hw1⟩; obtain rfl := hw1.symm; clear hw1)
    refine (Ints.zzPlainInt_any 45 (fun _ => 0) _ 0 _ _ (.inl rfl) (by omega) (HSl.out _)).mono ?_
    rintro e w3 ⟨v, ok, rfl, hr, hw3⟩
    obtain rfl := hw3.symm
    clear hw3
    go_wp2_with fail
    refine (Ints.model_any 45 (fun _ => 0) _ 0 _ _ (.inl rfl) (by omega) (HSl.out _)).mono ?_
    rintro e w3 ⟨v', ok', rfl, hr', hw3⟩
    obtain rfl := hw3.symm
    clear hw3
    obtain ⟨hv, hok⟩ := hr.same hr'
    clear hr hr'
    subst hv hok
    go_wp2
    go_ret
    exact ⟨by simp, Below.refl _ _⟩
  · have e1 : (a0 != 45) = true := by simp; omega
    have e2 : decide (a0 < 48) = false := by simp; omega
    go_enter Try.func3, Try.ntmps3
    go_wp2_with (go_at_call 8; refine (Ints.zzBytes_yes _ _ _ _ _ (by omega)).mono ?_; rintro e w1 ⟨rfl, hw1⟩; obtain rfl := hw1.symm; clear hw1)
    refine (Ints.zzPlainInt_any a0 (fun _ => 0) _ 0 _ _ (.inr ⟨ha1, ha2⟩) (by omega) (HSl.out _)).mono ?_
    rintro e w3 ⟨v, ok, rfl, hr, hw3⟩
    obtain rfl := hw3.symm
    clear hw3
    go_wp2_with fail
    refine (Ints.model_any a0 (fun _ => 0) _ 0 _ _ (.inr ⟨ha1, ha2⟩) (by omega) (HSl.out _)).mono ?_
    rintro e w3 ⟨v', ok', rfl, hr', hw3⟩
    obtain rfl := hw3.symm
    clear hw3
    obtain ⟨hv, hok⟩ := hr.same hr'
    clear hr hr'
    subst hv hok
    go_wp2
    go_ret
    exact ⟨by simp, Below.refl _ _⟩

/-- outside the law's domain -/
theorem walk_out (a0 : Int) (a : Option Addr) (len cap : Nat) (w : World) (hl : len ≤ 9223372036854775807) (h : 1048576 < len ∨ a0 ≠ 45 ∧ (a0 < 48 ∨ 57 < a0)) :
    Calls Try.prog 3 #[.int .u8 a0, .slice a len cap] w fun e w' => e = .returned (.bool true) ∧ Below w.heap.size w w' := by
  by_cases hb : 1048576 < len
  · go_enter Try.func3, Try.ntmps3
    go_wp2_with (go_at_call 8; refine (Ints.zzBytes_no _ _ _ _ _ hb).mono ?_; rintro e w1 ⟨rfl, hw1⟩; obtain rfl := hw1.symm; clear hw1)
    go_ret
    exact ⟨rfl, Below.refl _ _⟩
  · obtain ⟨h1, h2⟩ : a0 ≠ 45 ∧ (a0 < 48 ∨ 57 < a0) := by omega
    have e1 : (a0 != 45) = true := by simpa using h1
    by_cases h3 : a0 < 48
    · go_enter Try.func3, Try.ntmps3
      go_wp2_with (go_at_call 8; refine (Ints.zzBytes_yes _ _ _ _ _ (by omega)).mono ?_; rintro e w1 ⟨rfl, hw1⟩; obtain rfl := hw1.symm; clear hw1)
      go_ret
      exact ⟨rfl, Below.refl _ _⟩
    · have h4 : 57 < a0 := by omega
      have e2 : decide (a0 < 48) = false := by simp; omega
      go_enter Try.func3, Try.ntmps3
      go_wp2_with (go_at_call 8; refine (Ints.zzBytes_yes _ _ _ _ _ (by omega)).mono ?_; rintro e w1 ⟨rfl, hw1⟩; obtain rfl := hw1.symm; clear hw1)
      go_ret
      exact ⟨rfl, Below.refl _ _⟩

theorem walk (a0 : Int) (a1 : Option Addr) (len1 cap1 : Nat) (z1 : List Int) (w : World) (w0 : (Lit.int .u8 a0).wf = true) (w1 : IsRow .u8 w a1 len1 cap1 z1) :
    Calls Try.prog 3 #[.int .u8 a0, .slice a1 len1 cap1] w fun e w' => e = .returned (.bool true) ∧ Below w.heap.size w w' := by
  have hlen : len1 ≤ 9223372036854775807 := by
    rcases w1 with ⟨_, rfl, _⟩ | ⟨x, _, h1, h2, _⟩
    · omega
    · unfold maxLen at h2; omega
  by_cases hout : 1048576 < len1 ∨ a0 ≠ 45 ∧ (a0 < 48 ∨ 57 < a0)
  · exact walk_out a0 a1 len1 cap1 w hlen hout
  · have ha : a0 = 45 ∨ (48 ≤ a0 ∧ a0 ≤ 57) := by omega
    rcases w1 with ⟨rfl, rfl, rfl, _⟩ | ⟨x, rfl, h1, h2, h3, h4, h5⟩
    · exact walk_nil a0 w ha
    · refine walk_some a0 x len1 cap1 (z1.take len1) w ha (by omega) (by simp; omega) ?_ (fun n hn => h5 n (List.mem_of_mem_take hn)) ?_
      · intro i hi
        have hi' : i < len1 := by simp at hi; omega
        have := h4 i (by omega)
        rw [this]
        simp [List.getD, hi']
      · intro hp
        have := h4 0 (by omega)
        have hb := World.block_lt_of_cell? _ _ this
        simpa [Addr.add] using hb

/-! ### THE ROW's STEP: WRITTEN OUT: LEAVE IT -/
set_option maxRecDepth 100000 in
theorem lifted (os : Os) (started : os.Started) (H : Type) (enc : TypeId × Value → H) :
    ReturnsInHanded {} Try.checked os 3 .any (Rows.fnPlainIntIsTheDecimalOfAtMost18DigitsSpec.pre6 enc Try.prog Try.f3 Rows.fnPlainIntIsTheDecimalOfAtMost18DigitsRow.domain false) (Rows.fnPlainIntIsTheDecimalOfAtMost18DigitsSpec.post enc Try.prog Try.f3 false true false false) := by
  refine returnsInHanded_of_change (C := Try.checked) own started (by kernel_rfl) Try.func3
    (ChangeSpec.witness6 (enc := enc) (C := Try.checked) false ⟨#[], #[.int .u8 0, .slice none 0 0], []⟩ 8 (by kernel_rfl) (by kernel_rfl) (by kernel_rfl) (by kernel_rfl)) ?_
  intro W base args ds gs before hval0 hW hcnd _
  have hval : ∀ (j : Nat) t v, Try.f3.params[j]? = some t → args[j]? = some v → Value.okWide Try.prog W .any base t v := hval0
  have hW' := hW
  obtain ⟨p, q, hA0, hV, rfl, hfz, hnd⟩ := hW
  have hA : DataW.TrodAll enc Try.prog W 0 (fun _ => true) true Try.f3.params.toList args.toList ds p := hA0
  rw [Try.params3] at hA hval
  obtain ⟨v0, vs0, d0, ds0, p0, q0, hargs, rfl, rfl, h0, r0⟩ := trodAll_cons hA
  obtain ⟨v1, vs1, d1, ds1, p1, q1, rfl, rfl, rfl, h1, r1⟩ := trodAll_cons r0
  obtain ⟨rfl, rfl, rfl⟩ := trodAll_nil r1
  obtain rfl : args = #[v0, v1] := by cases args; simp_all
  obtain ⟨rfl, rfl⟩ := trodVars_none hV
  obtain ⟨a0, rfl, rfl, rfl, w0⟩ := open_int Try.underlying5 (hval 0 5 v0 rfl rfl) h0
  obtain ⟨a1, len1, cap1, rfl⟩ := okWide_slice Try.underlying22 (hval 1 22 v1 rfl rfl)
  have k1 := h1
  have lt1 : ∀ x ∈ p1, x.block < W.heap.size := by obtain ⟨m, hm⟩ := k1; exact DataW.trod_lt m _ _ _ hm
  obtain ⟨z1, w1⟩ : ∃ zs, IsRow .u8 W a1 len1 cap1 zs := by
    obtain ⟨fuel, hf⟩ := h1
    rcases open_ints Try.underlying22 Try.underlying5 (by kernel_rfl) hf with ⟨hcs, _⟩ | ⟨x, l, c, zs, hcs, _, hl, hm, hz, _, hcell, hwz⟩
    · simp [Value.cells] at hcs
      obtain ⟨rfl, rfl, rfl⟩ := hcs
      exact ⟨[], .inl ⟨rfl, rfl, rfl, rfl⟩⟩
    · simp [Value.cells] at hcs
      obtain ⟨rfl, rfl, rfl⟩ := hcs
      exact ⟨zs, .inr ⟨_, rfl, hl, hm, by simpa using hz, hcell, hwz⟩⟩
  clear hA0 hval0
  refine (walk a0 a1 len1 cap1 z1 W w0 w1).mono fun e W' ⟨he, bel⟩ => ?_
  subst he
  exact ⟨_, rfl, _, _, _, [], _, [], hW', trodAll_mk1 (shut_bool Try.underlying4 _), (trodAll_cons_mk (shut_int Try.underlying5 w0) (trodAll_cons_mk (Below.trod laidOut (by kernel_rfl) (of_decide_eq_true (by kernel_rfl)) k1 bel lt1) trodAll_mk0)), rfl, bel.frame _, fun h => by cases h⟩

theorem over : Rows.fnPlainIntIsTheDecimalOfAtMost18DigitsRow.holds Try.pinned (OpenSpec.ofChange Rows.fnPlainIntIsTheDecimalOfAtMost18DigitsSpec) :=
  OpenClaim.holds_of_wide 3 Try.f3 rfl rfl rfl rfl rfl rfl rfl ⟨rfl, rfl, rfl, rfl, rfl⟩ rfl rfl rfl rfl rfl (by kernel_rfl) Try.func3 (by kernel_rfl)
    (of_decide_eq_true (by kernel_rfl)) (by unfold Func.isWrapper; first | (rw [if_pos (by decide +kernel)]; kernel_rfl) | (rw [if_neg (by decide +kernel)]; exact ⟨rfl, rfl⟩))
    (fun os started H enc _ => lifted os started H enc)

/-- ████ THE STATEMENT ████ -/
theorem proved : Rows.FnPlainIntIsTheDecimalOfAtMost18DigitsSaid := over
end Go.Proofs.Qxb6604222a.fnPlainIntIsTheDecimalOfAtMost18Digits
