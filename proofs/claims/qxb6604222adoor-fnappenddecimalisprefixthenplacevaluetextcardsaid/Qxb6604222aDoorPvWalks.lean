/-
  The walks of zzDigitAt; the state of zzDecimalText's loop; the loop's text is appendDecimal's.
-/
import Derived.Deep.AppendLies
import Derived.Test.Qxb6604222aDoorLink
namespace Go.Proofs.Qxb6604222aDoor.Bufs
open Go.RowKit Go.Sort Go.Lib Ints
set_option linter.unusedVariables false

theorem digitAt_any (gd n cap : Nat) (D : List Int) (e k : Int) (w : World) (hD : D.length = n) (hn : n ≤ 20) (he1 : -1000 ≤ e) (he2 : e ≤ 1000) (hk1 : -1000 ≤ k) (hk2 : k ≤ 1000)
    (hc : ∀ j x, D[j]? = some x → w.cell? ⟨gd, j, none⟩ = some (.int .u8 x)) :
    Calls Tryd.prog 13 #[.slice (some ⟨gd, 0, none⟩) n cap, .int .i64 e, .int .i64 k] w fun r w' => r = .returned (.int .u8 (Pv.dAt 48 D e k)) ∧ w' = w := by
  have HD := Lib.hid hD
  clear hD
  by_cases h1 : k - e < 0
  · have HV : Hid (Pv.dAt 48 D e k = 48) := Pv.dAt_out _ _ _ _ (.inl h1)
    clear hc
    go_enter Tryd.func13, Tryd.ntmps13
    go_wp2
    go_ret
    exact ⟨by rw [HV.out]; rfl, rfl⟩
  · have d1 : decide (k - e < 0) = false := by simpa using h1
    by_cases h2 : (n : Int) ≤ k - e
    · have HV : Hid (Pv.dAt 48 D e k = 48) := Pv.dAt_out _ _ _ _ (.inr (by rw [HD.out]; exact h2))
      clear hc
      go_enter Tryd.func13, Tryd.ntmps13
      go_wp2
      go_ret
      exact ⟨by rw [HV.out]; rfl, rfl⟩
    · obtain ⟨t, Ht⟩ : ∃ t : Nat, Hid ((n : Int) - 1 - (k - e) = (t : Int)) := ⟨((n : Int) - 1 - (k - e)).toNat, by show _ = _; omega⟩
      have ht := Ht.out
      have hv := Pv.dAt_in 48 D e k t (by rw [HD.out]; omega) (by rw [HD.out]; omega)
      have hcell := hc t _ hv.symm
      have HV := Lib.hid hv
      clear hc hv
      go_enter Tryd.func13, Tryd.ntmps13
      go_wp2
      go_ret
      exact ⟨rfl, rfl⟩

/-- the loop's text so far, as cells -/
def pvc (D : List Int) (e h : Int) (j : Nat) : List Value := (Pv.pv 48 46 D e h j).map (Value.int .u8)
theorem pvc_zero (D : List Int) (e h : Int) : pvc D e h 0 = [] := rfl
theorem pvc_dot (D : List Int) (e h : Int) (j : Nat) (hz : h - (j : Int) = 0) : pvc D e h (j + 1) = pvc D e h j ++ [.int .u8 (Pv.dAt 48 D e (h - (j : Int)))] ++ [.int .u8 46] := by
  unfold pvc; rw [Pv.pv_succ, if_pos hz]; simp
theorem pvc_plain (D : List Int) (e h : Int) (j : Nat) (hz : h - (j : Int) ≠ 0) : pvc D e h (j + 1) = pvc D e h j ++ [.int .u8 (Pv.dAt 48 D e (h - (j : Int)))] := by
  unfold pvc; rw [Pv.pv_succ, if_neg hz]; simp

theorem body1 (u n : Nat) (e : Int) (h : Nat) (hw : Wide (u : Int) n) (h1 : 0 ≤ e) (h2 : e ≤ 6) (hh : (n : Int) - 1 + e = (h : Int)) : pvc (decs u n) e h (h + 1 + 0) = body u e := by
  obtain ⟨l1, l2⟩ := digs_link n u hw
  have hl := hw.lo
  obtain ⟨k, rfl⟩ : ∃ k : Nat, e = (k : Int) := ⟨e.toNat, by omega⟩
  have hlen := decs_length (u : Int) n
  have f := Pv.form1 (48 : Int) 46 (decs u n) k (by rw [hlen]; exact hl)
  rw [hlen] at f
  have eh : h = n - 1 + k := by omega
  rw [pvc, Nat.add_zero, eh, f]
  unfold body
  rw [if_pos ⟨h1, h2⟩, l1, Int.toNat_natCast]
  simp [decCells, zs]

theorem body2 (u n : Nat) (e : Int) (h i : Nat) (hw : Wide (u : Int) n) (h1 : e < 0) (h2 : 0 < (n : Int) + e) (hh : (n : Int) - 1 + e = (h : Int)) (hi : -e = (i : Int)) : pvc (decs u n) e h (h + 1 + i) = body u e := by
  obtain ⟨l1, l2⟩ := digs_link n u hw
  obtain rfl : e = -(i : Int) := by omega
  have hlen := decs_length (u : Int) n
  have f := Pv.form2 (48 : Int) 46 (decs u n) i (by rw [hlen]; omega) (by omega)
  rw [hlen] at f
  have eh : h = n - 1 - i := by omega
  rw [pvc, eh, f]
  unfold body
  rw [if_neg (by omega), l2, if_pos ⟨h1, by omega⟩, l1, show ((n : Int) + -(i : Int)).toNat = n - i by omega]
  simp [decCells]

theorem body3 (u n : Nat) (e : Int) (i : Nat) (hw : Wide (u : Int) n) (h1 : e < 0) (h2 : (n : Int) + e ≤ 0) (h3 : -((n : Int) + e) ≤ 6) (hi : -e = (i : Int)) : pvc (decs u n) e (0 : Nat) (0 + 1 + i) = body u e := by
  obtain ⟨l1, l2⟩ := digs_link n u hw
  obtain rfl : e = -(i : Int) := by omega
  have hlen := decs_length (u : Int) n
  have f := Pv.form3 (48 : Int) 46 (decs u n) i (by rw [hlen]; omega) (by omega)
  rw [hlen] at f
  rw [pvc, f]
  unfold body
  rw [if_neg (by omega), l2, if_neg (by omega), if_pos ⟨h1, by omega⟩, l1, show (-(-(i : Int)) - (n : Int)).toNat = i - n by omega]
  simp [decCells, zs]

theorem body4 (u n : Nat) (e : Int) (hw : Wide (u : Int) n) (h : 6 < e ∨ e < 0 ∧ 6 < -((n : Int) + e)) : body u e = decCells u n ++ [.int .u8 101] ++ byteCells (itoa e) := by
  obtain ⟨l1, l2⟩ := digs_link n u hw
  unfold body
  rw [if_neg (by omega), l2, if_neg (by omega), if_neg (by omega), l1]

/-- the walk's state: what is written so far, and the digits' own row -/
structure Tx (B : Nat) (w W : World) (gd : Nat) (D : List Int) (v : Value) (n : Nat) (xs : List Value) : Prop where
  own : W.ownsRow B 5 1 v n xs
  buf : W.heap[gd]? = some (.cells (D.map (Value.int .u8)).toArray 5 (0, 0))
  ne : v.ownBlock ≠ some gd
  bel : Below B w W
  hB : B ≤ W.heap.size

theorem Tx.next {B : Nat} {w W W1 W' : World} {gd g cap : Nat} {D : List Int} {v : Value} {n n' : Nat} {xs xs' : List Value} (S : Tx B w W gd D v n xs) (hb : Below W.heap.size W W1)
    (hown : W'.ownsRow B 5 1 (.slice (some ⟨g, 0, none⟩) n' cap) n' xs') (hgrow : W1.grownBy W' v.ownBlock) (hlies : v.ownBlock = some g ∨ g = W1.heap.size) : Tx B w W' gd D (.slice (some ⟨g, 0, none⟩) n' cap) n' xs' := by
  have hg := lt_of_heap S.buf
  have h1 : Below B w W1 := S.bel.trans (hb.mono S.hB)
  refine ⟨hown, ?_, ?_, h1.grown hgrow (Nat.le_trans S.hB hb.size) (fun k hk => (S.own.lt k hk).1), Nat.le_trans S.hB (Nat.le_trans hb.size hgrow.size)⟩
  · rw [hgrow.block gd (Nat.lt_of_lt_of_le hg hb.size) (fun e => S.ne e.symm), hb.block gd hg]
    exact S.buf
  · intro e
    have e' : g = gd := by simpa [Value.ownBlock] using e
    subst e'
    rcases hlies with h | h
    · exact S.ne h
    · have := hb.size; omega

theorem Tx.cells {B : Nat} {w W : World} {gd : Nat} {D : List Int} {v : Value} {n : Nat} {xs : List Value} (S : Tx B w W gd D v n xs) : ∀ j x, D[j]? = some x → W.cell? ⟨gd, j, none⟩ = some (.int .u8 x) := by
  intro j x h
  simp [World.cell?, S.buf, h]

theorem Tx.src {B : Nat} {w W : World} {gd : Nat} {D : List Int} {v : Value} {n : Nat} {xs : List Value} (S : Tx B w W gd D v n xs) : ∀ j x, (D.map (Value.int .u8))[j]? = some x → W.cell? ((⟨gd, 0, none⟩ : Addr).add j) = some x := by
  intro j x h
  rw [Go.WideShapes.add_plain]
  simp only [World.cell?, S.buf]
  simpa using h

theorem map_one (D : List Int) : ∀ v ∈ D.map (Value.int .u8), v.oneCell' = true := by
  intro v hv
  simp only [List.mem_map] at hv
  obtain ⟨z, _, rfl⟩ := hv
  rfl
end Go.Proofs.Qxb6604222aDoor.Bufs
