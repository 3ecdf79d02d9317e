/-
  ZZappendDecimal; zzEqualBytes over equal texts; texts as numbers.
-/
import Derived.Test.Qxb6604222aDoorText2
namespace Go.Proofs.Qxb6604222aDoor.Bufs
open Go.RowKit Go.Sort Go.Lib
set_option linter.unusedVariables false

theorem zzAppend_pos (u : Nat) (e : Int) (hu : u ≤ 9223372036854775807) (he1 : -9223372036854775808 ≤ e) (he2 : e ≤ 9223372036854775807) (B n : Nat) (sv : Value) (xs : List Value) (w : World)
    (hown : w.ownsRow B 5 1 sv n xs) (hBw : B ≤ w.heap.size) (hlim : n ≤ 1000000000) (htab : Lib.TabBelow Tryd.prog B w pow10Name .u64 Lib.pow10Tab) :
    Calls Tryd.prog 7 #[sv, .int .i64 u, .int .i64 e] w fun r w' => ∃ v', r = .returned v' ∧ w'.ownsRow B 5 1 v' (n + (body u e).length) (xs ++ body u e) ∧ Below B w w' := by
  have HC := Lib.hid (appendDecimal_pos u e hu he1 he2 B n sv xs w hown hBw hlim htab)
  clear hown htab
  go_enter Tryd.func7, Tryd.ntmps7
  go_wp2_with (go_at_call 10; go_must (refine HC.out.mono ?_; rintro r w1 ⟨v1, rfl, h1, h2⟩; have H1 := Lib.hid h1; clear h1))
  go_ret
  exact ⟨v1, rfl, H1.out, h2⟩

theorem zzAppend_neg (u : Nat) (e : Int) (hu1 : 1 ≤ u) (hu : u ≤ 9223372036854775808) (he1 : -9223372036854775808 ≤ e) (he2 : e ≤ 9223372036854775807) (B n : Nat) (sv : Value) (xs : List Value) (w : World)
    (hown : w.ownsRow B 5 1 sv n xs) (hBw : B ≤ w.heap.size) (hlim : n ≤ 1000000000) (htab : Lib.TabBelow Tryd.prog B w pow10Name .u64 Lib.pow10Tab) :
    Calls Tryd.prog 7 #[sv, .int .i64 (-(u : Int)), .int .i64 e] w fun r w' => ∃ v', r = .returned v' ∧ w'.ownsRow B 5 1 v' (n + 1 + (body u e).length) (xs ++ [.int .u8 45] ++ body u e) ∧ Below B w w' := by
  have HC := Lib.hid (appendDecimal_neg u e hu1 hu he1 he2 B n sv xs w hown hBw hlim htab)
  clear hown htab
  go_enter Tryd.func7, Tryd.ntmps7
  go_wp2_with (go_at_call 10; go_must (refine HC.out.mono ?_; rintro r w1 ⟨v1, rfl, h1, h2⟩; have H1 := Lib.hid h1; clear h1))
  go_ret
  exact ⟨v1, rfl, H1.out, h2⟩

/-- a slice's bytes -/
def Bytes (w : World) (b off len : Nat) (f : Nat → Int) : Prop := ∀ i, i < len → w.cell? ⟨b, off + i, none⟩ = some (.int .u8 (f i)) ∧ 0 ≤ f i ∧ f i ≤ 255
def Sl (w : World) (a : Option Addr) (len : Nat) (f : Nat → Int) : Prop := len = 0 ∨ ∃ b off, a = some ⟨b, off, none⟩ ∧ Bytes w b off len f
theorem Sl.pos {w : World} {a : Option Addr} {len k : Nat} {f : Nat → Int} (h : Sl w a len f) (hk : k < len) : ∃ b off, a = some ⟨b, off, none⟩ ∧ Bytes w b off len f := by
  rcases h with h | h
  · omega
  · exact h

set_option maxHeartbeats 1000000 in
theorem equal_any (a a' : Option Addr) (len c c' : Nat) (f : Nat → Int) (w : World) (hl : len ≤ 1099511627776) (hs : Sl w a len f) (hs' : Sl w a' len f) :
    Calls Tryd.prog 9 #[.slice a len c, .slice a' len c'] w fun e w' => e = .returned (.bool true) ∧ ∃ k, w' = w.drewN k := by
  go_enter Tryd.func9, Tryd.ntmps9
  go_wp2
  go_loopw [5] (fun i wr => ∃ k q : Nat, k ≤ len ∧ i = .int .i64 k ∧ wr = w.drewN q) (fun i _ => len - (RowKit.intOf i).toNat)
  case atStart => exact ⟨0, 0, Nat.zero_le _, rfl, rfl⟩
  case round =>
    obtain ⟨k, q, hk, rfl, rfl⟩ := hrel
    by_cases hlt : k < len
    · obtain ⟨b, off, rfl, hc⟩ := hs.pos hlt
      obtain ⟨b', off', rfl, hc'⟩ := hs'.pos hlt
      obtain ⟨h1, h2, h3⟩ := hc k hlt
      have h4 := (hc' k hlt).1
      have ilt : (k : Int) < (len : Int) := by omega
      go_wp2_with fail
      go_quiet (fail)
      go_wp2
      go_roundw
      case rel => exact ⟨k + 1, _, by omega, by go_num, rfl⟩
      case measure => simp [RowKit.intOf]; omega
    · go_wp2
      go_ret
      exact ⟨rfl, q, rfl⟩

/-- the bytes of an owned text that is not empty -/
theorem owns_bytes {w : World} {base n : Nat} {v : Value} {zs : List Int} (h : w.ownsRow base 5 1 v n (zs.map (Value.int .u8))) (hn : 1 ≤ n) (hz : ∀ z ∈ zs, 0 ≤ z ∧ z ≤ 255) :
    ∃ g cap, v = .slice (some ⟨g, 0, none⟩) n cap ∧ n ≤ cap ∧ cap ≤ maxLen ∧ zs.length = n ∧ Bytes w g 0 n (fun i => zs.getD i 0) := by
  obtain ⟨hl, h⟩ := h
  simp only [List.length_map, Nat.mul_one] at hl h
  rcases h with ⟨_, h0⟩ | ⟨g, cap, cur, rfl, hb, hg, h1, h2, hs, ht⟩
  · omega
  · refine ⟨g, cap, rfl, h1, h2, hl, fun i hi => ?_⟩
    have e : cur[i]? = some (.int .u8 (zs.getD i 0)) := by
      have h3 : (cur.toList.take n)[i]? = (zs.map (Value.int .u8))[i]? := by rw [ht]
      rw [List.getElem?_take_of_lt hi] at h3
      have hi' : i < zs.length := by omega
      simp [List.getElem?_eq_getElem hi'] at h3
      simp [List.getD, List.getElem?_eq_getElem hi', h3]
    refine ⟨by simp [World.cell?, hg, e], ?_⟩
    have hi' : i < zs.length := by omega
    have : zs.getD i 0 ∈ zs := by simp [List.getD, List.getElem?_eq_getElem hi']
    exact hz _ this

/-- a text whose cells are bytes -/
def IsBytes (l : List Value) : Prop := ∃ zs : List Int, l = zs.map (Value.int .u8) ∧ ∀ z ∈ zs, 0 ≤ z ∧ z ≤ 255

theorem IsBytes.app {a b : List Value} (h : IsBytes a) (k : IsBytes b) : IsBytes (a ++ b) := by
  obtain ⟨x, rfl, hx⟩ := h
  obtain ⟨y, rfl, hy⟩ := k
  refine ⟨x ++ y, by simp, fun z hz => ?_⟩
  rcases List.mem_append.1 hz with h | h
  · exact hx z h
  · exact hy z h
theorem IsBytes.byteCells (l : List UInt8) : IsBytes (byteCells l) := by
  refine ⟨l.map fun b => (b.toNat : Int), by simp [Lib.byteCells], fun z hz => ?_⟩
  simp only [List.mem_map] at hz
  obtain ⟨b, _, rfl⟩ := hz
  have := b.toNat_lt
  omega
theorem IsBytes.one (c : Int) (h1 : 0 ≤ c) (h2 : c ≤ 255) : IsBytes [.int .u8 c] := ⟨[c], rfl, fun z hz => by simp at hz; subst hz; exact ⟨h1, h2⟩⟩
theorem IsBytes.zs (k : Nat) : IsBytes (zs k) := ⟨List.replicate k 48, by simp [Bufs.zs], fun z hz => by have := (List.mem_replicate.1 hz).2; omega⟩
theorem IsBytes.take {a : List Value} (h : IsBytes a) (k : Nat) : IsBytes (a.take k) := by
  obtain ⟨x, rfl, hx⟩ := h
  exact ⟨x.take k, by simp, fun z hz => hx z (List.mem_of_mem_take hz)⟩
theorem IsBytes.drop {a : List Value} (h : IsBytes a) (k : Nat) : IsBytes (a.drop k) := by
  obtain ⟨x, rfl, hx⟩ := h
  exact ⟨x.drop k, by simp, fun z hz => hx z (List.mem_of_mem_drop hz)⟩
theorem IsBytes.digs (u : Nat) : IsBytes (digs u) := IsBytes.byteCells _

theorem body_bytes (u : Nat) (e : Int) : IsBytes (body u e) := by
  unfold body
  have d := IsBytes.digs u
  split
  · exact (d.app (IsBytes.zs _)).app (IsBytes.one 46 (by omega) (by omega))
  · split
    · exact ((d.take _).app (IsBytes.one 46 (by omega) (by omega))).app (d.drop _)
    · split
      · exact (((IsBytes.one 48 (by omega) (by omega)).app (IsBytes.one 46 (by omega) (by omega))).app (IsBytes.zs _)).app d
      · exact (d.app (IsBytes.one 101 (by omega) (by omega))).app (IsBytes.byteCells _)

theorem nDigits_pos (u : Nat) : 1 ≤ nDigits u := by
  by_cases h : u < 10
  · rw [nDigits_small h]; omega
  · rw [nDigits_big h]; omega

theorem body_len (u : Nat) (e : Int) (hu : u < 18446744073709551616) (he1 : -9223372036854775808 ≤ e) (he2 : e ≤ 9223372036854775807) : 1 ≤ (body u e).length ∧ (body u e).length ≤ 100 := by
  have h1 := nDigits_pos u
  have h2 := nDigits_le20 u hu
  have h3 := Lib.itoa_length_le e he1 he2
  unfold body
  split
  · simp only [List.length_append, digs_length, zs, List.length_replicate, List.length_cons, List.length_nil]; omega
  · split
    · simp only [List.length_append, digs_length, List.length_take, List.length_drop, List.length_cons, List.length_nil]; omega
    · split
      · simp only [List.length_append, digs_length, zs, List.length_replicate, List.length_cons, List.length_nil]; omega
      · simp only [List.length_append, digs_length, byteCells_length, List.length_cons, List.length_nil]; omega

/-- an owned row stays where blocks below a later mark stay -/
theorem owns_below {w w' : World} {base n : Nat} {v : Value} {xs : List Value} (h : w.ownsRow base 5 1 v n xs) (hb : Below w.heap.size w w') : w'.ownsRow base 5 1 v n xs := by
  obtain ⟨hl, h0 | ⟨g, cap, cur, hv, hbg, hg, r⟩⟩ := h
  · exact ⟨hl, .inl h0⟩
  · exact ⟨hl, .inr ⟨g, cap, cur, hv, hbg, by rw [hb.block g (lt_of_heap hg)]; exact hg, r⟩⟩

theorem bytes_shift {w : World} {b n k : Nat} {f : Nat → Int} (h : Bytes w b 0 (k + n) f) : Bytes w b k n (fun i => f (k + i)) := by
  intro i hi
  have := h (k + i) (by omega)
  rw [Nat.zero_add] at this
  exact this
end Go.Proofs.Qxb6604222aDoor.Bufs
