/-
  appendDecimal: what it writes, and its walk.
-/
import Derived.BigQuiet
import Derived.Deep.QuietTactic
import Derived.WalkSmall
import Derived.Lib.ItoaLen
import Derived.Test.Qxb6604222aDoorBufWalks
namespace Go.Proofs.Qxb6604222aDoor.Bufs
open Go.RowKit Go.Sort Go.Lib
set_option linter.unusedVariables false

/-- zeros, as cells -/
def zs (k : Nat) : List Value := List.replicate k (.int .u8 48)

/-- what is written behind the sign -/
def body (u : Nat) (e : Int) : List Value :=
  if 0 ≤ e ∧ e ≤ 6 then digs u ++ zs e.toNat ++ [.int .u8 46]
  else if e < 0 ∧ -(nDigits u : Int) < e then (digs u).take ((nDigits u : Int) + e).toNat ++ [.int .u8 46] ++ (digs u).drop ((nDigits u : Int) + e).toNat
  else if e < 0 ∧ -(nDigits u : Int) - 6 ≤ e then [.int .u8 48, .int .u8 46] ++ zs (-e - (nDigits u : Int)).toNat ++ digs u
  else digs u ++ [.int .u8 101] ++ byteCells (itoa e)

/-- the buffer behind AppendUint -/
def bufOf (u : Nat) : List Value := splice (Ints.zeros 20) 0 (digs u)

/-- the walk's state: what is written so far, and the digits' array -/
structure St (B : Nat) (w W : World) (g u : Nat) (v : Value) (n : Nat) (xs : List Value) : Prop where
  own : W.ownsRow B 5 1 v n xs
  buf : W.heap[g]? = some (.cells (bufOf u).toArray 36 (0, 0))
  bel : Below B w W
  hB : B ≤ W.heap.size

theorem lt_of_heap {W : World} {g : Nat} {o : Obj} (h : W.heap[g]? = some o) : g < W.heap.size := by
  rcases Nat.lt_or_ge g W.heap.size with h1 | h1
  · exact h1
  · rw [Array.getElem?_eq_none h1] at h; cases h

theorem own_ne {W : World} {B n g : Nat} {v : Value} {xs : List Value} {c : Array Value} {fz : Nat × Nat} (h : W.ownsRow B 5 1 v n xs) (hb : W.heap[g]? = some (.cells c 36 fz)) : some g ≠ v.ownBlock := by
  obtain ⟨_, ⟨rfl, _⟩ | ⟨g', cap, cur, rfl, _, hg, _⟩⟩ := h
  · simp [Value.ownBlock]
  · intro e
    have e' : g = g' := by simpa [Value.ownBlock] using e
    subst e'
    rw [hg] at hb
    simp at hb

theorem St.next {B : Nat} {w W W1 W' : World} {g u : Nat} {v v' : Value} {n n' : Nat} {xs xs' : List Value} (S : St B w W g u v n xs) (hb : Below W.heap.size W W1) (hown : W'.ownsRow B 5 1 v' n' xs') (hgrow : W1.grownBy W' v.ownBlock) : St B w W' g u v' n' xs' := by
  have hg := lt_of_heap S.buf
  have h1 : Below B w W1 := S.bel.trans (hb.mono S.hB)
  refine ⟨hown, ?_, h1.grown hgrow (Nat.le_trans S.hB hb.size) (fun k hk => (S.own.lt k hk).1), Nat.le_trans S.hB (Nat.le_trans hb.size hgrow.size)⟩
  rw [hgrow.block g (Nat.lt_of_lt_of_le hg hb.size) (own_ne S.own S.buf), hb.block g hg]
  exact S.buf

theorem St.drewN {B : Nat} {w W : World} {g u : Nat} {v : Value} {n : Nat} {xs : List Value} (S : St B w W g u v n xs) (k : Nat) : St B w (W.drewN k) g u v n xs :=
  ⟨S.own, S.buf, below_drewN S.bel k, S.hB⟩

theorem digs_get (u j : Nat) (x : Value) (h : (digs u)[j]? = some x) : j < nDigits u := by
  have := (List.getElem?_eq_some_iff.1 h).1
  rwa [digs_length] at this

theorem bufOf_get (u j : Nat) (h20 : nDigits u ≤ 20) (hj : j < nDigits u) : (bufOf u)[j]? = (digs u)[j]? := by
  have : j < (digs u).length := by rw [digs_length]; exact hj
  simp [bufOf, splice, List.getElem?_append_left this]

/-- the digits from place k on lie in the array from its place k on -/
theorem St.drop_cells {B : Nat} {w W : World} {g u : Nat} {v : Value} {n : Nat} {xs : List Value} (S : St B w W g u v n xs) (h20 : nDigits u ≤ 20) (k : Nat) : ∀ j x, ((digs u).drop k)[j]? = some x → W.cell? ((⟨g, k, none⟩ : Addr).add j) = some x := by
  intro j x h
  rw [List.getElem?_drop] at h
  have hj := digs_get u _ x h
  rw [← bufOf_get u _ h20 hj] at h
  rw [Go.WideShapes.add_plain]
  simp [World.cell?, S.buf, h]

theorem St.digs_cells {B : Nat} {w W : World} {g u : Nat} {v : Value} {n : Nat} {xs : List Value} (S : St B w W g u v n xs) (h20 : nDigits u ≤ 20) : ∀ j x, (digs u)[j]? = some x → W.cell? ((⟨g, 0, none⟩ : Addr).add j) = some x :=
  S.drop_cells h20 0

theorem St.take_cells {B : Nat} {w W : World} {g u : Nat} {v : Value} {n : Nat} {xs : List Value} (S : St B w W g u v n xs) (h20 : nDigits u ≤ 20) (k : Nat) : ∀ j x, ((digs u).take k)[j]? = some x → W.cell? ((⟨g, 0, none⟩ : Addr).add j) = some x := by
  intro j x h
  refine S.digs_cells h20 j x ?_
  rw [List.getElem?_take] at h
  split at h
  · exact h
  · cases h

theorem one_cells (W : World) (x : Value) (t : TypeId) : ∀ j y, ([x] : List Value)[j]? = some y → (W.alloc (.cells #[x] t)).cell? ((⟨W.heap.size, 0, none⟩ : Addr).add j) = some y := by
  intro j y h
  match j, h with
  | 0, h => simp at h; subst h; simp [Addr.add]

theorem nDigits_le20 (u : Nat) (h : u < 18446744073709551616) : nDigits u ≤ 20 := by
  by_cases h0 : u < 10
  · rw [nDigits_small h0]; omega
  · have := Lib.numDigits_eq u (by omega) h; split at this <;> omega

theorem St.start {B : Nat} {w w1 W : World} {u g n : Nat} {v : Value} {xs : List Value} (hb : Below B w w1) (hB : B ≤ w1.heap.size) (hown : w1.ownsRow B 5 1 v n xs) (hg : w1.heap.size = g)
    (hgr : (w1.alloc (.cells (Ints.zeros 20).toArray 36)).grownBy W (some g)) (hbuf : W.heap[g]? = some (.cells (splice (Ints.zeros 20) 0 (digs u)).toArray 36 (0, 0))) : St B w W g u v n xs := by
  subst hg
  refine ⟨(hown.alloc _).kept hgr ?_, hbuf, (hb.alloc hB _).grown hgr (by simp; omega) ?_, ?_⟩
  · right
    intro h
    have := (hown.lt _ h).2
    omega
  · intro k hk
    have e : w1.heap.size = k := by simpa using hk
    omega
  · have := hgr.size
    simp at this
    omega

theorem cell_kept {w1 W : World} {g : Nat} {o : Obj} {p : Addr} {x : Value} (hg : w1.heap.size = g) (hgr : (w1.alloc o).grownBy W (some g)) (hp : p.block < w1.heap.size) (h : w1.cell? p = some x) : W.cell? p = some x := by
  subst hg
  rw [World.cell?_of_block (w := w1.alloc o) (hgr.block p.block (by simp; omega) (by simp; omega)), ((Below.refl w1.heap.size w1).alloc (Nat.le_refl _) o).cell hp, h]

theorem tab_at {B : Nat} {w w1 : World} (h : Lib.TabBelow Tryd.prog B w pow10Name .u64 Lib.pow10Tab) (hb : Below B w w1) (hB : B ≤ w1.heap.size) (o : Obj) : Lib.TabIs Tryd.prog (w1.alloc o) pow10Name .u64 Lib.pow10Tab :=
  h _ (hb.alloc hB o)

theorem run_sl_h (g nd k : Nat) (i : Int) (hk : i = (k : Int)) (h : k ≤ 20) (w : World) :
    (Instr.slice 22 (.slice (some ⟨g, 0, none⟩) nd 20) none (some (.int .i64 i)) none).run Tryd.prog w = .ok (.slice (some ⟨g, 0, none⟩) k 20) w := by
  subst hk
  rw [run_slice_h w 22 (some ⟨g, 0, none⟩) nd 20 (by simp [Program.elem, Tryd.underlying22]) .i64 (k : Int) (by omega) (by omega)]
  have e : Tryd.prog.elem 22 = 5 := by simp [Program.elem, Tryd.underlying22]
  rw [e, Ints.run_size5]
  simp [Result.andThen, sliced, Addr.add]
theorem run_sl_l (g nd k : Nat) (i : Int) (hk : i = (k : Int)) (h : k ≤ nd) (h2 : k < 20) (w : World) :
    (Instr.slice 22 (.slice (some ⟨g, 0, none⟩) nd 20) (some (.int .i64 i)) none none).run Tryd.prog w = .ok (.slice (some ⟨g, k, none⟩) (nd - k) (20 - k)) w := by
  subst hk
  rw [run_slice_l w 22 (some ⟨g, 0, none⟩) nd 20 (by simp [Program.elem, Tryd.underlying22]) .i64 (k : Int) (by omega) (by omega)]
  have e : Tryd.prog.elem 22 = 5 := by simp [Program.elem, Tryd.underlying22]
  have h3 : (20 : Nat) ≠ k := by omega
  rw [e, Ints.run_size5]
  by_cases h0 : k = 0
  · subst h0; simp [Result.andThen, sliced, Addr.add]
  · simp [Result.andThen, sliced, Addr.add, h0, h3]

theorem zstr_cells (k : Nat) (h : k ≤ 6) : strCells ((⟨#[48, 48, 48, 48, 48, 48]⟩ : ByteArray).extract 0 k) = zs k ∧ ((⟨#[48, 48, 48, 48, 48, 48]⟩ : ByteArray).extract 0 k).size = k := by
  match k, h with
  | 0, _ => exact ⟨by kernel_rfl, by kernel_rfl⟩
  | 1, _ => exact ⟨by kernel_rfl, by kernel_rfl⟩
  | 2, _ => exact ⟨by kernel_rfl, by kernel_rfl⟩
  | 3, _ => exact ⟨by kernel_rfl, by kernel_rfl⟩
  | 4, _ => exact ⟨by kernel_rfl, by kernel_rfl⟩
  | 5, _ => exact ⟨by kernel_rfl, by kernel_rfl⟩
  | 6, _ => exact ⟨by kernel_rfl, by kernel_rfl⟩

theorem run_str_h (k : Nat) (i : Int) (hk : i = (k : Int)) (h : k ≤ 6) (w : World) :
    (Instr.slice 9 (.string ⟨#[48, 48, 48, 48, 48, 48]⟩) none (some (.int .i64 i)) none).run Tryd.prog w = .ok (.string ((⟨#[48, 48, 48, 48, 48, 48]⟩ : ByteArray).extract 0 k)) w := by
  subst hk
  have e : (⟨#[48, 48, 48, 48, 48, 48]⟩ : ByteArray).size = 6 := by kernel_rfl
  rw [run_slice_string_h w 9 ⟨#[48, 48, 48, 48, 48, 48]⟩ Tryd.underlying9 .i64 (k : Int) (by omega) (by rw [e]; omega), Int.toNat_natCast]

theorem owns_eq {W : World} {B n n' : Nat} {v : Value} {xs xs' : List Value} (h : W.ownsRow B 5 1 v n xs) (hn : n = n') (hx : xs = xs') : W.ownsRow B 5 1 v n' xs' := by
  subst hn hx; exact h

theorem wrap_back (u : Nat) (h1 : 1 ≤ u) (h2 : u ≤ 9223372036854775808) : IntKind.u64.wrap (wrap64 (u : Int)) = (u : Int) := by
  unfold wrap64
  simp [IntKind.wrap, IntKind.bits, IntKind.signed]
  omega

set_option maxHeartbeats 4000000 in
theorem appendDecimal_pos (u : Nat) (e : Int) (hu : u ≤ 9223372036854775807) (he1 : -9223372036854775808 ≤ e) (he2 : e ≤ 9223372036854775807) (B n : Nat) (sv : Value) (xs : List Value) (w : World)
    (hown : w.ownsRow B 5 1 sv n xs) (hBw : B ≤ w.heap.size) (hlim : n ≤ 1000000000) (htab : Lib.TabBelow Tryd.prog B w pow10Name .u64 Lib.pow10Tab) :
    Calls Tryd.prog 10 #[sv, .agg #[.int .i64 u, .int .i64 e]] w fun r w' => ∃ v', r = .returned v' ∧ w'.ownsRow B 5 1 v' (n + (body u e).length) (xs ++ body u e) ∧ Below B w w' := by
  obtain ⟨i0, hi, hz0, hz1, hz2⟩ := info_parts Ints.dec_info5
  have HO := Lib.hid hown
  have HT := Lib.hid htab
  have hb0 : Below B w (w.alloc (.cells #[.int .i64 u, .int .i64 e] 31)) := (Below.refl _ _).alloc hBw _
  have HB0 := Lib.hid hb0
  have hB1 : B ≤ (w.alloc (.cells #[.int .i64 u, .int .i64 e] 31)).heap.size := by simp; omega
  have HB1 := Lib.hid hB1
  clear hown htab hb0 hB1
  go_enter Tryd.func10, Tryd.ntmps10
  go_wp2_with fail
  refine (appendUint_any u (by omega) (w.heap.size + 1) (Ints.zeros 20) rfl _ (heap_alloc2_new w _ _) (tab_at HT.out HB0.out HB1.out _)).mono ?_
  rintro r W ⟨rfl, hbuf, hgr⟩
  have hbox : W.cell? ⟨w.heap.size, 1, none⟩ = some (.int .i64 e) := cell_kept (w1 := w.alloc (.cells #[.int .i64 u, .int .i64 e] 31)) (by simp) hgr (by simp) (by simp [World.cell?_alloc_new])
  have S : St B w W (w.heap.size + 1) u sv n xs := St.start HB0.out HB1.out (HO.out.alloc _) (by simp) hgr hbuf
  obtain ⟨g, HG⟩ : ∃ g, Hid (g = w.heap.size + 1) := ⟨_, rfl⟩
  rw [← HG.out] at S ⊢
  clear hbuf hgr
  go_wp2_with fail
  go_quiet (fail)
  have h20 := nDigits_le20 u (by omega)
  have S0 := S.drewN nq
  clear S hbox HB0 HB1 HO
  by_cases c1 : 0 ≤ e ∧ e ≤ 6
  · obtain ⟨hzc, hzn⟩ := zstr_cells e.toNat (by omega)
    have HZC := Lib.hid hzc
    have HZN := Lib.hid hzn
    have HBody : Hid (body u e = digs u ++ zs e.toNat ++ [.int .u8 46]) := by show _ = _; unfold body; rw [if_pos c1]
    have hzl : Hid ((zs e.toNat).length = e.toNat) := by show _ = _; simp [zs]
    clear hzc hzn
    obtain ⟨c1a, c1b⟩ := c1
    go_wp2_with (at_builtin; go_must (refine wpList_append_own _ rfl (.tmp 37) (.tmp 38) 22 rfl B 5 i0 (.int .u8 0) 1 1 Tryd.underlying22 hi hz0 hz1 hz2 rfl (by decide) _ _ _ rfl S0.own ⟨g, 0, none⟩ (nDigits u) 20 (digs u) rfl (by rw [digs_length]; omega) (S0.digs_cells h20) (digs_one u) (by unfold maxLen; omega) (by omega) S0.hB ?_; intro v1 w1 hown1 hgrow1 _; refine Hid.out ?_))
    have S1 := S0.next (Below.refl _ _) hown1 hgrow1
    clear hown1 hgrow1
    refine Lib.hid ?_
    go_wp2_with (at_builtin; go_must (refine Lib.wpList_append_own_string _ rfl (.tmp 40) (.tmp 42) 22 9 rfl B 5 i0 Tryd.underlying22 Tryd.underlying9 hi hz0 hz1 hz2 _ _ _ rfl S1.own ((⟨#[48, 48, 48, 48, 48, 48]⟩ : ByteArray).extract 0 e.toNat) rfl (by rw [HZN.out]; unfold maxLen; omega) (by rw [HZN.out]; omega) S1.hB ?_; intro v2 w2 hown2 hgrow2 _; refine Hid.out ?_))
    have S2 := S1.next (Below.refl _ _) hown2 hgrow2
    clear hown2 hgrow2
    refine Lib.hid ?_
    rw [HZN.out, HZC.out] at S2
    go_wp2_with (at_builtin; go_must (refine wpList_append_own _ rfl (.tmp 44) (.tmp 45) 22 rfl B 5 i0 (.int .u8 0) 1 1 Tryd.underlying22 hi hz0 hz1 hz2 rfl (by decide) _ _ _ rfl (S2.own.alloc _) ⟨w2.heap.size, 0, none⟩ 1 1 [.int .u8 46] rfl rfl (one_cells w2 _ _) (by intro x hx; simp at hx; subst hx; rfl) (by unfold maxLen; omega) (by omega) (by have := S2.hB; simp; omega) ?_; intro v3 w3 hown3 hgrow3 _; refine Hid.out ?_))
    have S3 := S2.next ((Below.refl _ _).alloc (Nat.le_refl _) _) hown3 hgrow3
    clear hown3 hgrow3
    refine Lib.hid ?_
    go_wp2
    go_ret
    refine ⟨v3, rfl, owns_eq S3.own ?_ ?_, S3.bel⟩
    · rw [HBody.out]; simp only [List.length_append, digs_length, hzl.out, List.length_cons, List.length_nil]; omega
    · rw [HBody.out]; simp only [List.append_assoc]
  by_cases c2 : e < 0 ∧ -(nDigits u : Int) < e
  · obtain ⟨k, HK⟩ : ∃ k : Nat, Hid ((nDigits u : Int) + e = (k : Int)) := ⟨((nDigits u : Int) + e).toNat, by show _ = _; omega⟩
    have hk := HK.out
    have HBody : Hid (body u e = (digs u).take k ++ [.int .u8 46] ++ (digs u).drop k) := by show _ = _; unfold body; rw [if_neg c1, if_pos c2, hk, Int.toNat_natCast]
    obtain ⟨c2a, c2b⟩ := c2
    have k1 : 1 ≤ k := by omega
    have k2 : k < nDigits u := by omega
    have d1 : decide (0 ≤ e) = false := by simp; omega
    have hs1 := run_sl_h g (nDigits u) k ((nDigits u : Int) + e) hk (by omega)
    have hs2 := run_sl_l g (nDigits u) k ((nDigits u : Int) + e) hk (by omega) (by omega)
    have HTL : Hid (((digs u).take k).length = k * 1) := by show _ = _; rw [List.length_take, digs_length]; omega
    have HDL : Hid (((digs u).drop k).length = (nDigits u - k) * 1) := by show _ = _; rw [List.length_drop, digs_length]; omega
    have HT1 : Hid (∀ v ∈ (digs u).take k, v.oneCell' = true) := fun v hv => digs_one u v (List.mem_of_mem_take hv)
    have HD1 : Hid (∀ v ∈ (digs u).drop k, v.oneCell' = true) := fun v hv => digs_one u v (List.mem_of_mem_drop hv)
    clear hk c1
    go_wp2_with (at_builtin; go_must (refine wpList_append_own _ rfl (.tmp 56) (.tmp 61) 22 rfl B 5 i0 (.int .u8 0) 1 1 Tryd.underlying22 hi hz0 hz1 hz2 rfl (by decide) _ _ _ rfl S0.own ⟨g, 0, none⟩ k 20 ((digs u).take k) rfl HTL.out (S0.take_cells h20 k) HT1.out (by unfold maxLen; omega) (by omega) S0.hB ?_; intro v1 w1 hown1 hgrow1 _; refine Hid.out ?_))
    have S1 := S0.next (Below.refl _ _) hown1 hgrow1
    clear hown1 hgrow1
    refine Lib.hid ?_
    go_wp2_with (at_builtin; go_must (refine wpList_append_own _ rfl (.tmp 63) (.tmp 64) 22 rfl B 5 i0 (.int .u8 0) 1 1 Tryd.underlying22 hi hz0 hz1 hz2 rfl (by decide) _ _ _ rfl (S1.own.alloc _) ⟨w1.heap.size, 0, none⟩ 1 1 [.int .u8 46] rfl rfl (one_cells w1 _ _) (by intro x hx; simp at hx; subst hx; rfl) (by unfold maxLen; omega) (by omega) (by have := S1.hB; simp; omega) ?_; intro v2 w2 hown2 hgrow2 _; refine Hid.out ?_))
    have S2 := S1.next ((Below.refl _ _).alloc (Nat.le_refl _) _) hown2 hgrow2
    clear hown2 hgrow2
    refine Lib.hid ?_
    go_wp2_with (at_builtin; go_must (refine wpList_append_own _ rfl (.tmp 66) (.tmp 71) 22 rfl B 5 i0 (.int .u8 0) 1 1 Tryd.underlying22 hi hz0 hz1 hz2 rfl (by decide) _ _ _ rfl S2.own ⟨g, k, none⟩ (nDigits u - k) (20 - k) ((digs u).drop k) rfl HDL.out (S2.drop_cells h20 k) HD1.out (by unfold maxLen; omega) (by omega) S2.hB ?_; intro v3 w3 hown3 hgrow3 _; refine Hid.out ?_))
    have S3 := S2.next (Below.refl _ _) hown3 hgrow3
    clear hown3 hgrow3
    refine Lib.hid ?_
    go_wp2
    go_ret
    refine ⟨v3, rfl, owns_eq S3.own ?_ ?_, S3.bel⟩
    · rw [HBody.out]; simp only [List.length_append, HTL.out, HDL.out, List.length_cons, List.length_nil]; omega
    · rw [HBody.out]; simp only [List.append_assoc]
  by_cases c3 : e < 0 ∧ -(nDigits u : Int) - 6 ≤ e
  · obtain ⟨k, HK⟩ : ∃ k : Nat, Hid (-e - (nDigits u : Int) = (k : Int)) := ⟨(-e - (nDigits u : Int)).toNat, by show _ = _; omega⟩
    have hk := HK.out
    obtain ⟨hzc, hzn⟩ := zstr_cells k (by omega)
    have HZC := Lib.hid hzc
    have HZN := Lib.hid hzn
    have HBody : Hid (body u e = [.int .u8 48, .int .u8 46] ++ zs k ++ digs u) := by show _ = _; unfold body; rw [if_neg c1, if_neg c2, if_pos c3, hk, Int.toNat_natCast]
    have hzl : Hid ((zs k).length = k) := by show _ = _; simp [zs]
    have hs3 := run_str_h k (-e - (nDigits u : Int)) hk (by omega)
    have k6 : k ≤ 6 := by omega
    clear hzc hzn hk
    obtain ⟨c3a, c3b⟩ := c3
    have d1 : decide (0 ≤ e) = false := by simp; omega
    have d2 : e ≤ -(nDigits u : Int) := by omega
    have HP : Hid (strCells (⟨#[48, 46]⟩ : ByteArray) = [.int .u8 48, .int .u8 46]) := by show _ = _; kernel_rfl
    have HPN : Hid ((⟨#[48, 46]⟩ : ByteArray).size = 2) := by show _ = _; kernel_rfl
    clear c1 c2
    go_wp2_with (at_builtin; go_must (refine Lib.wpList_append_own_string _ rfl (.tmp 83) (.const (.string ⟨#[48, 46]⟩)) 22 9 rfl B 5 i0 Tryd.underlying22 Tryd.underlying9 hi hz0 hz1 hz2 _ _ _ rfl S0.own (⟨#[48, 46]⟩ : ByteArray) rfl (by rw [HPN.out]; unfold maxLen; omega) (by rw [HPN.out]; omega) S0.hB ?_; intro v1 w1 hown1 hgrow1 _; refine Hid.out ?_))
    have S1 := S0.next (Below.refl _ _) hown1 hgrow1
    clear hown1 hgrow1
    refine Lib.hid ?_
    rw [HPN.out, HP.out] at S1
    go_wp2_with (at_builtin; go_must (refine Lib.wpList_append_own_string _ rfl (.tmp 85) (.tmp 90) 22 9 rfl B 5 i0 Tryd.underlying22 Tryd.underlying9 hi hz0 hz1 hz2 _ _ _ rfl S1.own ((⟨#[48, 48, 48, 48, 48, 48]⟩ : ByteArray).extract 0 k) rfl (by rw [HZN.out]; unfold maxLen; omega) (by rw [HZN.out]; omega) S1.hB ?_; intro v2 w2 hown2 hgrow2 _; refine Hid.out ?_))
    have S2 := S1.next (Below.refl _ _) hown2 hgrow2
    clear hown2 hgrow2
    refine Lib.hid ?_
    rw [HZN.out, HZC.out] at S2
    go_wp2_with (at_builtin; go_must (refine wpList_append_own _ rfl (.tmp 92) (.tmp 93) 22 rfl B 5 i0 (.int .u8 0) 1 1 Tryd.underlying22 hi hz0 hz1 hz2 rfl (by decide) _ _ _ rfl S2.own ⟨g, 0, none⟩ (nDigits u) 20 (digs u) rfl (by rw [digs_length]; omega) (S2.digs_cells h20) (digs_one u) (by unfold maxLen; omega) (by omega) S2.hB ?_; intro v3 w3 hown3 hgrow3 _; refine Hid.out ?_))
    have S3 := S2.next (Below.refl _ _) hown3 hgrow3
    clear hown3 hgrow3
    refine Lib.hid ?_
    go_wp2
    go_ret
    refine ⟨v3, rfl, owns_eq S3.own ?_ ?_, S3.bel⟩
    · rw [HBody.out]; simp only [List.length_append, digs_length, hzl.out, List.length_cons, List.length_nil]; omega
    · rw [HBody.out]; simp only [List.append_assoc]
  have HBody : Hid (body u e = digs u ++ [.int .u8 101] ++ byteCells (itoa e)) := by show _ = _; unfold body; rw [if_neg c1, if_neg c2, if_neg c3]
  have hil := Lib.itoa_length_le e he1 he2
  by_cases c4 : 6 < e
  · have d2 : decide (e < 0) = false := by simp; omega
    clear c1 c2 c3
    go_wp2_with (at_builtin; go_must (refine wpList_append_own _ rfl (.tmp 95) (.tmp 96) 22 rfl B 5 i0 (.int .u8 0) 1 1 Tryd.underlying22 hi hz0 hz1 hz2 rfl (by decide) _ _ _ rfl S0.own ⟨g, 0, none⟩ (nDigits u) 20 (digs u) rfl (by rw [digs_length]; omega) (S0.digs_cells h20) (digs_one u) (by unfold maxLen; omega) (by omega) S0.hB ?_; intro v1 w1 hown1 hgrow1 _; refine Hid.out ?_))
    have S1 := S0.next (Below.refl _ _) hown1 hgrow1
    clear hown1 hgrow1
    refine Lib.hid ?_
    go_wp2_with (at_builtin; go_must (refine wpList_append_own _ rfl (.tmp 98) (.tmp 99) 22 rfl B 5 i0 (.int .u8 0) 1 1 Tryd.underlying22 hi hz0 hz1 hz2 rfl (by decide) _ _ _ rfl (S1.own.alloc _) ⟨w1.heap.size, 0, none⟩ 1 1 [.int .u8 101] rfl rfl (one_cells w1 _ _) (by intro x hx; simp at hx; subst hx; rfl) (by unfold maxLen; omega) (by omega) (by have := S1.hB; simp; omega) ?_; intro v2 w2 hown2 hgrow2 _; refine Hid.out ?_))
    have S2 := S1.next ((Below.refl _ _).alloc (Nat.le_refl _) _) hown2 hgrow2
    clear hown2 hgrow2
    refine Lib.hid ?_
    go_wp2_with (go_at_call 15; go_must (refine (Tryd.strconv_AppendInt_10 B _ e he1 he2 v2 _ w2 S2.own S2.hB (by omega) (HT.out.on S2.bel)).mono ?_; rintro r w3 ⟨v3, rfl, hown3, hb3, _⟩; refine Hid.out ?_))
    have HO3 := Lib.hid hown3
    clear hown3
    refine Lib.hid ?_
    go_wp2
    go_ret
    refine ⟨v3, rfl, owns_eq HO3.out ?_ ?_, S2.bel.trans hb3⟩
    · rw [HBody.out]; simp only [List.length_append, digs_length, byteCells_length, List.length_cons, List.length_nil]; omega
    · rw [HBody.out]; simp only [List.append_assoc]
  · have d1 : decide (0 ≤ e) = false := by simp; omega
    have d2 : e < 0 := by omega
    have d3 : e < -(nDigits u : Int) - 6 := by omega
    have d4 : e ≤ -(nDigits u : Int) := by omega
    clear c1 c2 c3
    go_wp2_with (at_builtin; go_must (refine wpList_append_own _ rfl (.tmp 95) (.tmp 96) 22 rfl B 5 i0 (.int .u8 0) 1 1 Tryd.underlying22 hi hz0 hz1 hz2 rfl (by decide) _ _ _ rfl S0.own ⟨g, 0, none⟩ (nDigits u) 20 (digs u) rfl (by rw [digs_length]; omega) (S0.digs_cells h20) (digs_one u) (by unfold maxLen; omega) (by omega) S0.hB ?_; intro v1 w1 hown1 hgrow1 _; refine Hid.out ?_))
    have S1 := S0.next (Below.refl _ _) hown1 hgrow1
    clear hown1 hgrow1
    refine Lib.hid ?_
    go_wp2_with (at_builtin; go_must (refine wpList_append_own _ rfl (.tmp 98) (.tmp 99) 22 rfl B 5 i0 (.int .u8 0) 1 1 Tryd.underlying22 hi hz0 hz1 hz2 rfl (by decide) _ _ _ rfl (S1.own.alloc _) ⟨w1.heap.size, 0, none⟩ 1 1 [.int .u8 101] rfl rfl (one_cells w1 _ _) (by intro x hx; simp at hx; subst hx; rfl) (by unfold maxLen; omega) (by omega) (by have := S1.hB; simp; omega) ?_; intro v2 w2 hown2 hgrow2 _; refine Hid.out ?_))
    have S2 := S1.next ((Below.refl _ _).alloc (Nat.le_refl _) _) hown2 hgrow2
    clear hown2 hgrow2
    refine Lib.hid ?_
    go_wp2_with (go_at_call 15; go_must (refine (Tryd.strconv_AppendInt_10 B _ e he1 he2 v2 _ w2 S2.own S2.hB (by omega) (HT.out.on S2.bel)).mono ?_; rintro r w3 ⟨v3, rfl, hown3, hb3, _⟩; refine Hid.out ?_))
    have HO3 := Lib.hid hown3
    clear hown3
    refine Lib.hid ?_
    go_wp2
    go_ret
    refine ⟨v3, rfl, owns_eq HO3.out ?_ ?_, S2.bel.trans hb3⟩
    · rw [HBody.out]; simp only [List.length_append, digs_length, byteCells_length, List.length_cons, List.length_nil]; omega
    · rw [HBody.out]; simp only [List.append_assoc]
end Go.Proofs.Qxb6604222aDoor.Bufs
