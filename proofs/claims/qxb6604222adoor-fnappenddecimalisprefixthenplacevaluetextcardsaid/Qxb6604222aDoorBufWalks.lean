/-
  strconv.AppendUint(buf[:0], u, 10), buf an array of 20 bytes of the caller's own: the digits are laid into the array itself.
-/
import Derived.Lib.AppendZeros
import Derived.Lib.Hide
import Derived.Lib.BufferKept
import Derived.Deep.DeepMust
import Derived.Test.Qxb6604222aDoorShelf
import Derived.Test.Qxb6604222aDoorDecWalks
namespace Go.Proofs.Qxb6604222aDoor.Bufs
open Go.RowKit Go.Sort Go.Lib
set_option linter.unusedVariables false

section
variable {P : Program} (w : World)

/-- append within the capacity, the row of whatever tag (an array's block); the source a slice -/
theorem run_append_room_tag (t ty e tag : TypeId) (i : TypeInfo) (ht : P.underlying t = some (.slice e)) (hi : P.info? e = some i) (hs1 : i.size = 1)
    (g sLen sCap : Nat) (cur : List Value) (hg : w.heap[g]? = some (.cells cur.toArray tag (0, 0)))
    (a : Addr) (m c : Nat) (news : List Value) (hl : news.length = m) (hnews : ∀ j u, news[j]? = some u → w.cell? (a.add j) = some u) (h1 : ∀ u ∈ news, u.oneCell' = true)
    (hroom : sLen + m ≤ sCap) (hfit : sLen + news.length ≤ cur.length) :
    (Builtin.append_ #[t, t] ty #[.slice (some ⟨g, 0, none⟩) sLen sCap, .slice (some a) m c]).run P w =
      .ok (.slice (some ⟨g, 0, none⟩) (sLen + m) sCap) (w.setRow g (splice cur sLen news).toArray) := by
  have hf := run_firstCells_some (P := P) w 1 m a m c news (by omega) hnews
  have hst := run_storeCells_at P g sLen tag news 0 cur.toArray w hg (by simpa using hfit) h1
  simp only [Nat.add_zero] at hst
  simp [Builtin.append_, run_underlying ht, sizeOf, typeInfo, hi, hs1, Builtin.lenOf, hroom, hf, Addr.add_lit, hst, splice]

/-- .. the source a string -/
theorem run_append_room_tag_string (t u ty e tag : TypeId) (i : TypeInfo) (ht : P.underlying t = some (.slice e)) (hu : P.underlying u = some .string) (hi : P.info? e = some i) (hs1 : i.size = 1)
    (g sLen sCap : Nat) (cur : List Value) (hg : w.heap[g]? = some (.cells cur.toArray tag (0, 0))) (s : ByteArray)
    (hroom : sLen + s.size ≤ sCap) (hfit : sLen + s.size ≤ cur.length) :
    (Builtin.append_ #[t, u] ty #[.slice (some ⟨g, 0, none⟩) sLen sCap, .string s]).run P w =
      .ok (.slice (some ⟨g, 0, none⟩) (sLen + s.size) sCap) (w.setRow g (splice cur sLen (strCells s)).toArray) := by
  have hf := run_firstCells_string (P := P) w 1 s
  have hst := run_storeCells_at P g sLen tag (strCells s) 0 cur.toArray w hg (by simpa [strCells_length] using hfit) (strCells_oneCell s)
  simp only [Nat.add_zero, strCells_length] at hst
  simp [Builtin.append_, run_underlying ht, run_underlying hu, sizeOf, typeInfo, hi, hs1, Builtin.lenOf, hroom, hf, Addr.add_lit, hst, splice, strCells_length]
end

theorem grown_setRow (w : World) (g : Nat) (cs : Array Value) : w.grownBy (w.setRow g cs) (some g) :=
  ⟨rfl, rfl, rfl, by simp [World.setRow], fun k hk hne => setRow_other w g k cs (fun e => hne (by rw [e]))⟩

theorem grown_trans {a b c : World} {g : Nat} (h : Below a.heap.size a b) (k : b.grownBy c (some g)) : a.grownBy c (some g) :=
  ⟨k.os.trans h.os, k.tape.trans h.tape, k.output.trans h.output, Nat.le_trans h.size k.size, fun i hi hne => (k.block i (Nat.lt_of_lt_of_le hi h.size) hne).trans (h.block i hi)⟩

/-- what a number's digits are, as cells -/
def digs (u : Nat) : List Value := byteCells (decDigits u)
theorem digs_length (u : Nat) : (digs u).length = nDigits u := by rw [digs, byteCells_length, decDigits_length]
theorem digs_one (u : Nat) : ∀ v ∈ digs u, v.oneCell' = true := by
  intro v hv
  simp only [digs, byteCells, List.mem_map] at hv
  obtain ⟨b, _, rfl⟩ := hv
  rfl

theorem nDigits_small100 (u : Nat) (h : u < 100) : nDigits u ≤ 2 := by
  by_cases h10 : u < 10
  · rw [nDigits_small h10]; omega
  · rw [nDigits_big h10, nDigits_small (show u / 10 < 10 by omega)]; omega

set_option maxHeartbeats 1000000 in
theorem appendUint_small (u : Nat) (hu : u < 100) (g : Nat) (cur : List Value) (hcl : cur.length = 20) (w : World) (hg : w.heap[g]? = some (.cells cur.toArray 36 (0, 0))) :
    Calls Tryd.prog 16 #[.slice (some ⟨g, 0, none⟩) 0 20, .int .u64 u, .int .i64 10] w fun e w' => e = .returned (.slice (some ⟨g, 0, none⟩) (nDigits u) 20) ∧ w'.heap[g]? = some (.cells (splice cur 0 (digs u)).toArray 36 (0, 0)) ∧ w.grownBy w' (some g) := by
  obtain ⟨i0, hi, hz0, hz1, hz2⟩ := info_parts Ints.dec_info5
  have hsz : (⟨(decDigits u).toArray⟩ : ByteArray).size = nDigits u := by simp [ByteArray.size, decDigits_length]
  have hn := nDigits_small100 u hu
  have hrun := run_append_room_tag_string (P := Tryd.prog) w 22 9 22 5 36 i0 Tryd.underlying22 Tryd.underlying9 hi hz1 g 0 20 cur hg ⟨(decDigits u).toArray⟩ (by rw [hsz]; omega) (by rw [hsz]; omega)
  rw [hsz, Nat.zero_add] at hrun
  have HR := Lib.hid hrun
  have HG := Lib.hid hg
  have iu : (u : Int) < 100 := by omega
  clear hrun hsz hg
  go_enter Tryd.func16, Tryd.ntmps16
  go_wp2_with (first
    | (go_at_call 18; go_must (refine (Tryd.internal_strconv_small u hu _).mono ?_; rintro e w1 ⟨rfl, hw1⟩; obtain rfl := hw1.symm; clear hw1))
    | (at_builtin; go_must (refine Lib.wpList_append_run _ rfl _ _ _ _ rfl _ _ rfl rfl _ _ HR.out ?_)))
  go_ret
  exact ⟨rfl, setRow_heap w g _ _ 36 _ HG.out, grown_setRow w g _⟩

set_option maxHeartbeats 2000000 in
theorem appendUint_big (u : Nat) (hu : 100 ≤ u) (hu64 : u < 18446744073709551616) (g : Nat) (cur : List Value) (hcl : cur.length = 20) (w : World) (hg : w.heap[g]? = some (.cells cur.toArray 36 (0, 0)))
    (htab : Lib.TabIs Tryd.prog w pow10Name .u64 Lib.pow10Tab) :
    Calls Tryd.prog 16 #[.slice (some ⟨g, 0, none⟩) 0 20, .int .u64 u, .int .i64 10] w fun e w' => e = .returned (.slice (some ⟨g, 0, none⟩) (nDigits u) 20) ∧ w'.heap[g]? = some (.cells (splice cur 0 (digs u)).toArray 36 (0, 0)) ∧ w.grownBy w' (some g) := by
  obtain ⟨i0, hi, hz0, hz1, hz2⟩ := info_parts Ints.dec_info5
  have hgl : g < w.heap.size := by
    rcases Nat.lt_or_ge g w.heap.size with h | h
    · exact h
    · rw [Array.getElem?_eq_none h] at hg; cases hg
  have hu1 : 1 ≤ u := by omega
  have hnd20 : Lib.nDigits u ≤ 20 := by have := Lib.numDigits_eq u hu1 hu64; split at this <;> omega
  have hal : Tryd.prog.arrayLen 40 = 24 := by simp [Program.arrayLen, Tryd.underlying40]
  have hsl : ∀ W, (Instr.sliceAt 40 (.pointer (some ⟨w.heap.size, 0, none⟩)) none (some (.int .i64 (Lib.nDigits u : Int))) none).run Tryd.prog W = .ok (.slice (some ⟨w.heap.size, 0, none⟩) (Lib.nDigits u) 24) W := fun W => by
    rw [run_sliceAt_array_h W 40 ⟨w.heap.size, 0, none⟩ (by simp [Program.arrayLen, Program.elem, Tryd.underlying40]) .i64 (Lib.nDigits u : Int) (by omega) (by rw [hal]; omega)]
    go_simp
  have hH0 := Lib.holds_zero0 w 40 (Lib.nDigits u) (by omega)
  have hfmt := Tryd.internal_strconv_formatBase10 w.heap.size 0 24 u (Array.replicate (Lib.nDigits u) 0) (w.alloc (.cells Lib.zeros24 40)) hH0 (by rw [Array.size_replicate]; exact Lib.lt_pow_nDigits u) hu64 (by rw [Array.size_replicate]; omega)
  rw [Array.size_replicate] at hfmt
  have HH0 := Lib.hid hH0
  have HFmt := Lib.hid hfmt
  have HG := Lib.hid hg
  have iu : (100 : Int) ≤ (u : Int) := by omega
  clear hH0 hal hfmt hg
  go_enter Tryd.func16, Tryd.ntmps16
  go_wp2_with (go_at_call 19; go_must (refine (Tryd.internal_strconv_numDigits u hu1 hu64 _ (Lib.tabIs_alloc htab _)).mono ?_; rintro e w1 ⟨rfl, hw1⟩; obtain rfl := hw1.symm; clear hw1))
  refine HFmt.out.mono ?_
  rintro e w' ⟨rfl, k, v', dk, rfl, hF⟩
  have hcells : ∀ j u', (digs u)[j]? = some u' → ((putRow (fun (b : UInt8) => Value.int .u8 (b.toNat : Int)) (w.alloc (.cells Lib.zeros24 40)) w.heap.size 0 dk).drewN k).cell? ((⟨w.heap.size, 0, none⟩ : Addr).add j) = some u' := by
    intro j u' hj
    have hjl : j < (Lib.decDigits u).length := by
      have h5 := (List.getElem?_eq_some_iff.1 hj).1
      rwa [digs, Lib.byteCells_length] at h5
    have e5 : (digs u)[j]? = some (Value.int .u8 ((Lib.decDigits u)[j].toNat : Int)) := by simp [digs, Lib.byteCells, hjl]
    rw [e5] at hj
    cases hj
    rw [Lib.row_is_numeral hF j hjl, Lib.add_plain, World.cell?_drewN]
    exact cell?_putRow (fun (b : UInt8) => Value.int .u8 (b.toNat : Int)) _ w.heap.size 0 _ dk HH0.out (by rw [hF.size, Array.size_replicate]) j (by rw [hF.size]; rw [Lib.decDigits_length] at hjl; exact hjl)
  obtain ⟨os, eo⟩ := Lib.fin_at w (.cells Lib.zeros24 40) dk k 0
  have hbel : Below w.heap.size w ((putRow (fun (b : UInt8) => Value.int .u8 (b.toNat : Int)) (w.alloc (.cells Lib.zeros24 40)) w.heap.size 0 dk).drewN k) := by rw [eo]; exact Lib.below_grow w.heap.size w (Nat.le_refl _) k os
  generalize (putRow (fun (b : UInt8) => Value.int .u8 (b.toNat : Int)) (w.alloc (.cells Lib.zeros24 40)) w.heap.size 0 dk).drewN k = W2 at hcells hbel ⊢
  clear eo HH0 HFmt
  have hg2 : W2.heap[g]? = some (.cells cur.toArray 36 (0, 0)) := by rw [hbel.block g hgl]; exact HG.out
  have hrun := run_append_room_tag (P := Tryd.prog) W2 22 22 5 36 i0 Tryd.underlying22 hi hz1 g 0 20 cur hg2 ⟨w.heap.size, 0, none⟩ (nDigits u) 24 (digs u) (digs_length u) hcells (digs_one u) (by omega) (by rw [digs_length]; omega)
  rw [Nat.zero_add] at hrun
  have HR := Lib.hid hrun
  have HG2 := Lib.hid hg2
  have HB := Lib.hid hbel
  clear hrun hg2 hcells hbel
  go_wp2_with (at_builtin; go_must (refine Lib.wpList_append_run _ rfl _ _ _ _ rfl _ _ rfl rfl _ _ HR.out ?_))
  go_ret
  exact ⟨rfl, setRow_heap W2 g _ _ 36 _ HG2.out, grown_trans HB.out (grown_setRow W2 g _)⟩

theorem appendUint_any (u : Nat) (hu64 : u < 18446744073709551616) (g : Nat) (cur : List Value) (hcl : cur.length = 20) (w : World) (hg : w.heap[g]? = some (.cells cur.toArray 36 (0, 0)))
    (htab : Lib.TabIs Tryd.prog w pow10Name .u64 Lib.pow10Tab) :
    Calls Tryd.prog 14 #[.slice (some ⟨g, 0, none⟩) 0 20, .int .u64 u, .int .i64 10] w fun e w' => e = .returned (.slice (some ⟨g, 0, none⟩) (nDigits u) 20) ∧ w'.heap[g]? = some (.cells (splice cur 0 (digs u)).toArray 36 (0, 0)) ∧ w.grownBy w' (some g) := by
  have hin : Calls Tryd.prog 16 #[.slice (some ⟨g, 0, none⟩) 0 20, .int .u64 u, .int .i64 10] w fun e w' => e = .returned (.slice (some ⟨g, 0, none⟩) (nDigits u) 20) ∧ w'.heap[g]? = some (.cells (splice cur 0 (digs u)).toArray 36 (0, 0)) ∧ w.grownBy w' (some g) := by
    by_cases h : u < 100
    · exact appendUint_small u h g cur hcl w hg
    · exact appendUint_big u (by omega) hu64 g cur hcl w hg htab
  have HI := Lib.hid hin
  clear hin hg
  go_enter Tryd.func14, Tryd.ntmps14
  go_wp2_with (go_at_call 16; go_must (refine HI.out.mono ?_; rintro e w1 ⟨rfl, h1, h2⟩; have H1 := Lib.hid h1; clear h1))
  go_ret
  exact ⟨rfl, H1.out, h2⟩
end Go.Proofs.Qxb6604222aDoor.Bufs
