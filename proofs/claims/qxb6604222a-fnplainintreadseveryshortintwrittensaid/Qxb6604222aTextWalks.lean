/-
  A number's text, written by zzDecimalInt64, and its reading back; the walk of FnPlainIntReadsEveryShortIntWritten.
-/
import Derived.BigQuiet
import Derived.WalkSmall
import Derived.Deep.QuietTactic
import Derived.Test.Qxb6604222aIntWalks
import Derived.Test.Qxb6604222aDecWalks
namespace Go.Proofs.Qxb6604222a.Ints
open Go.ChangeShapes Go.WideShapes Go.ChangeAt Go.RowKit
set_option linter.unusedVariables false

/-- the bytes of an owned text that is not empty -/
theorem owns_bytes {w : World} {base n : Nat} {v : Value} {zs : List Int} (h : w.ownsRow base 5 1 v n (zs.map (Value.int .u8))) (hn : 1 ≤ n) (hz : ∀ z ∈ zs, 0 ≤ z ∧ z ≤ 255) :
    ∃ g cap, v = .slice (some ⟨g, 0, none⟩) n cap ∧ n ≤ cap ∧ cap ≤ maxLen ∧ zs.length = n ∧ Bytes w g 0 n (fun i => zs.getD i 0) := by
  obtain ⟨hl, h⟩ := h
  simp only [List.length_map, Nat.mul_one] at hl h
  rcases h with ⟨_, h0⟩ | ⟨g, cap, cur, rfl, hb, hg, h1, h2, hs, ht⟩
  · omega
  · refine ⟨g, cap, rfl, h1, h2, hl, fun i hi => ?_⟩
    have e : cur[i]? = some (.int .u8 (zs.getD i 0)) := by
      have h3 : (cur.toList.take n)[i]? = (zs.map (Value.int .u8))[i]? := by rw [ht]
      rw [List.getElem?_take_of_lt hi] at h3
      have hi' : i < zs.length := by omega
      simp [List.getElem?_eq_getElem hi'] at h3
      simp [List.getD, List.getElem?_eq_getElem hi', h3]
    refine ⟨by simp [World.cell?, hg, e], ?_⟩
    have hi' : i < zs.length := by omega
    have : zs.getD i 0 ∈ zs := by simp [List.getD, List.getElem?_eq_getElem hi']
    exact hz _ this

/-- the reading of a text's first byte and rest, where all is well -/
theorem plain_is (a0 x : Int) (f : Nat → Int) (b off len cap : Nat) (w : World) (ha : a0 = 45 ∨ (48 ≤ a0 ∧ a0 ≤ 57)) (hs : Bytes w b off len f) (hr : Reads a0 f len x true) (hl : len ≤ 18) :
    Calls Try.prog 9 #[.int .u8 a0, .slice (some ⟨b, off, none⟩) len cap] w fun e w' => e = .returned (.tuple #[.int .i64 x, .bool true]) ∧ w' = w := by
  refine (zzPlainInt_any a0 f _ len cap w ha (by omega) (.inr ⟨_, _, rfl, hs⟩)).mono ?_
  rintro e w' ⟨v, ok, rfl, hr', hw⟩
  obtain ⟨rfl, rfl⟩ := hr.same hr'
  exact ⟨rfl, hw⟩

theorem bytes_drew {w : World} {b off len : Nat} {f : Nat → Int} (h : Bytes w b off len f) (n : Nat) : Bytes (w.drewN n) b off len f := by
  intro i hi
  have := h i hi
  simpa using this

theorem bytes_rest {w : World} {b n : Nat} {f : Nat → Int} (h : Bytes w b 0 n f) : Bytes w b 1 (n - 1) (fun i => f (i + 1)) := by
  intro i hi
  have := h (i + 1) (by omega)
  rw [show 0 + (i + 1) = 1 + i by omega] at this
  exact this

theorem decs_255 (u : Int) (n : Nat) : ∀ z ∈ decs u n, 0 ≤ z ∧ z ≤ 255 := by
  intro z hz
  simp only [decs, List.mem_map] at hz
  obtain ⟨t, _, rfl⟩ := hz
  have := dg_bd u n t
  omega

/-- what is known of a text behind the call -/
structure IsText (x : Int) (w : World) (g n cap : Nat) (a0 : Int) (f : Nat → Int) : Prop where
  lo : 1 ≤ n
  fits : n ≤ cap
  most : cap ≤ maxLen
  hi : n ≤ 19
  first : a0 = 45 ∨ (48 ≤ a0 ∧ a0 ≤ 57)
  head : f 0 = a0
  bytes : Bytes w g 0 n f
  reads : Reads a0 (fun i => f (i + 1)) (n - 1) x true

theorem dec_text (x : Int) (w : World) (h1 : -1000000000000000000 < x) (h2 : x < 1000000000000000000) :
    Calls Try.prog 11 #[.int .i64 x] w fun e w' => ∃ g n cap a0 f, e = .returned (.slice (some ⟨g, 0, none⟩) n cap) ∧ IsText x w' g n cap a0 f ∧ Below w.heap.size w w' := by
  by_cases hx : 0 ≤ x
  · refine (decInt64_pos x w hx (by omega)).mono ?_
    rintro e w1 ⟨n, v, hw, rfl, hown, hb⟩
    have hn := hw.le18 hx h2
    have hlo := hw.lo
    obtain ⟨g, cap, rfl, hcap, hmax, _, hby⟩ := owns_bytes hown hw.lo (decs_255 x n)
    refine ⟨g, n, cap, dg x n 0, dg x n, rfl, ⟨hlo, hcap, hmax, by omega, .inr (dg_bd x n 0), rfl, ?_, ?_⟩, hb⟩
    · intro i hi
      have := hby i hi
      simp only [decs_getD x n i hi] at this
      exact this
    · have h9 := dg_bd x n 0
      refine .inr ⟨rfl, fun i hi => dg_bd x n (i + 1), .inr ⟨by omega, by omega, ?_⟩⟩
      rw [val_shift, show n - 1 + 1 = n by omega, val_dg_all x hx n hw.top]
  · refine (decInt64_neg x w (by omega) (by omega)).mono ?_
    rintro e w1 ⟨n, v, hw, rfl, hown, hb⟩
    have hn := hw.le18 (by omega) (by omega)
    have hlo := hw.lo
    have hown' : w1.ownsRow w.heap.size 5 1 v (1 + n) ((45 :: decs (-x) n).map (Value.int .u8)) := hown
    obtain ⟨g, cap, rfl, hcap, hmax, _, hby⟩ := owns_bytes hown' (by omega) (by
      intro z hz
      rcases List.mem_cons.1 hz with rfl | hz
      · omega
      · exact decs_255 (-x) n z hz)
    refine ⟨g, 1 + n, cap, 45, fun i => (45 :: decs (-x) n).getD i 0, rfl, ⟨by omega, hcap, hmax, by omega, .inl rfl, rfl, hby, ?_⟩, hb⟩
    have hf : ∀ i, i < n → (45 :: decs (-x) n).getD (i + 1) 0 = dg (-x) n i := by
      intro i hi
      rw [← decs_getD (-x) n i hi]; simp
    have hv : ∀ k, k ≤ n → val (fun i => (45 :: decs (-x) n).getD (i + 1) 0) 0 k = val (dg (-x) n) 0 k := by
      intro k
      induction k with
      | zero => intro _; rfl
      | succ k ih => intro hk; rw [val_succ, val_succ, ih (by omega), hf k (by omega)]
    rw [show 1 + n - 1 = n by omega]
    refine .inr ⟨rfl, fun i hi => by have := dg_bd (-x) n i; simp only [hf i hi]; exact this, .inl ⟨rfl, by omega, by omega, ?_⟩⟩
    rw [hv n (Nat.le_refl _), val_dg_all (-x) (by omega) n hw.top]; omega

set_option maxHeartbeats 1000000 in
theorem short_any (x : Int) (w : World) (h1 : -1000000000000000000 < x) (h2 : x < 1000000000000000000) :
    Calls Try.prog 4 #[.int .i64 x] w fun e w' => e = .returned (.bool true) ∧ Below w.heap.size w w' := by
  have e1 : decide (x ≤ -1000000000000000000) = false := by simp; omega
  go_enter Try.func4, Try.ntmps4
  go_wp2_with (go_at_call 11; refine (dec_text x _ h1 h2).mono ?_; rintro e w1 ⟨g, n, cap, a0, f, rfl, ht, hb⟩)
  have c0 : w1.cell? ⟨g, 0, none⟩ = some (.int .u8 a0) := by have := (ht.bytes 0 ht.lo).1; rw [ht.head] at this; exact this
  have n1 := ht.lo
  have n2 := ht.fits
  have n3 : (1 : Int) ≤ (n : Int) := by omega
  have n4 : (0 : Int) < (n : Int) := by omega
  by_cases hcap : cap = 1
  · have hn : n = 1 := by omega
    subst hcap hn
    have hr := ht.reads
    clear n1 n2 n3 n4
    go_quiet ((go_at_call 9; exact Calls.quiet_of_same (plain_is a0 x (fun i => f (i + 1)) g 0 0 _ _ ht.first (fun i hi => absurd hi (Nat.not_lt_zero _)) hr (by omega))))
    go_wp2
    go_ret
    exact ⟨by simp, below_drewN hb _⟩
  · go_quiet ((go_at_call 9; exact Calls.quiet_of_same (plain_is a0 x (fun i => f (i + 1)) g 1 (n - 1) _ _ ht.first (bytes_drew (bytes_rest ht.bytes) _) ht.reads (by have := ht.hi; omega))))
    go_wp2
    go_ret
    exact ⟨by simp, below_drewN hb _⟩
end Go.Proofs.Qxb6604222a.Ints
