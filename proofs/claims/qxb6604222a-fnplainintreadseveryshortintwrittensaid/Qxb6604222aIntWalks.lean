/-
  The walks of isDigit, plainInt, ZZplainInt and zzPlainIntModel.
-/
import Derived.Test.Qxb6604222aRows
import Derived.WalkKit
import Derived.ProofKit
import Derived.OwnWalk
import Derived.Outline
import Derived.Test.Qxb6604222aIntPlain
namespace Go.Proofs.Qxb6604222a.Ints
open Go.ChangeShapes Go.WideShapes Go.ChangeAt Go.RowKit
set_option linter.unusedVariables false

theorem ret_ib {k : IntKind} {a a' : Int} {b : Bool} (h : a = a') : Ending.returned (.tuple #[.int k a, .bool b]) = .returned (.tuple #[.int k a', .bool b]) := by rw [h]

theorem isDigit_yes (c : Int) (w : World) (h1 : 48 ≤ c) (h2 : c ≤ 57) :
    Calls Try.prog 21 #[.int .u8 c] w fun e w' => e = .returned (.bool true) ∧ w' = w := by
  go_enter Try.func21, Try.ntmps21
  go_wp2
  go_ret
  exact ⟨by simp, rfl⟩

theorem isDigit_no (c : Int) (w : World) (h : c < 48 ∨ 57 < c) :
    Calls Try.prog 21 #[.int .u8 c] w fun e w' => e = .returned (.bool false) ∧ w' = w := by
  rcases h with h | h
  · have hd : decide (48 ≤ c) = false := by simp; omega
    go_enter Try.func21, Try.ntmps21
    go_wp2
    go_ret
    exact ⟨rfl, rfl⟩
  · have h' : 48 ≤ c := by omega
    go_enter Try.func21, Try.ntmps21
    go_wp2
    go_ret
    exact ⟨by simp; omega, rfl⟩

/-- a slice's bytes -/
def Bytes (w : World) (b off len : Nat) (f : Nat → Int) : Prop := ∀ i, i < len → w.cell? ⟨b, off + i, none⟩ = some (.int .u8 (f i)) ∧ 0 ≤ f i ∧ f i ≤ 255

/-- a slice of bytes: nil, or at an address -/
def Sl (w : World) (a : Option Addr) (len : Nat) (f : Nat → Int) : Prop := (a = none ∧ len = 0) ∨ ∃ b off, a = some ⟨b, off, none⟩ ∧ Bytes w b off len f

theorem Sl.pos {w : World} {a : Option Addr} {len k : Nat} {f : Nat → Int} (h : Sl w a len f) (hk : k < len) : ∃ b off, a = some ⟨b, off, none⟩ ∧ Bytes w b off len f := by
  rcases h with ⟨_, h⟩ | h
  · omega
  · exact h

/-- what the reading of 'first, rest' answers -/
def Reads (a0 : Int) (f : Nat → Int) (len : Nat) (v : Int) (ok : Bool) : Prop :=
  (ok = false ∧ v = 0 ∧ ((a0 = 45 ∧ (len = 0 ∨ 18 < len)) ∨ (a0 ≠ 45 ∧ 17 < len) ∨ ∃ j, j < len ∧ (f j < 48 ∨ 57 < f j))) ∨
  (ok = true ∧ AllDig f len ∧ ((a0 = 45 ∧ 1 ≤ len ∧ len ≤ 18 ∧ v = -val f 0 len) ∨ (a0 ≠ 45 ∧ len ≤ 17 ∧ v = val f (a0 - 48) len)))

theorem Reads.same {a0 : Int} {f : Nat → Int} {len : Nat} {v v' : Int} {ok ok' : Bool} (h : Reads a0 f len v ok) (h' : Reads a0 f len v' ok') : v = v' ∧ ok = ok' := by
  rcases h with ⟨rfl, rfl, h⟩ | ⟨rfl, hd, h⟩ <;> rcases h' with ⟨rfl, rfl, h'⟩ | ⟨rfl, hd', h'⟩
  · exact ⟨rfl, rfl⟩
  · exfalso
    rcases h with h | h | ⟨j, hj, h⟩
    · omega
    · omega
    · have := hd' j hj; omega
  · exfalso
    rcases h' with h | h | ⟨j, hj, h⟩
    · omega
    · omega
    · have := hd j hj; omega
  · refine ⟨?_, rfl⟩
    rcases h with ⟨e, _, _, h⟩ | ⟨e, _, h⟩ <;> rcases h' with ⟨e', _, _, h'⟩ | ⟨e', _, h'⟩
    · rw [h, h']
    · exact absurd e e'
    · exact absurd e' e
    · rw [h, h']

theorem plain_neg_yes (f : Nat → Int) (a : Option Addr) (len cap : Nat) (w : World) (hd : AllDig f len) (h1 : 1 ≤ len) (h2 : len ≤ 18) (hs : Sl w a len f) :
    Calls Try.prog 15 #[.int .u8 45, .slice a len cap] w fun e w' => e = .returned (.tuple #[.int .i64 (-val f 0 len), .bool true]) ∧ w' = w := by
  have e0 : ((len : Int) == 0) = false := by simp; omega
  go_enter Try.func15, Try.ntmps15
  go_wp2
  go_loop [7, 30] (fun v i => ∃ k : Nat, k ≤ len ∧ i = .int .i64 k ∧ v = .int .i64 (val f 0 k)) (fun _ i => len - (intOf i).toNat)
  case atStart => exact ⟨0, Nat.zero_le _, rfl, rfl⟩
  case round =>
    obtain ⟨k, hk, rfl, rfl⟩ := hrel
    by_cases hlt : k < len
    · obtain ⟨b, off, rfl, hc⟩ := hs.pos hlt
      obtain ⟨d1, d2⟩ := hd k hlt
      obtain ⟨r1, r2⟩ := val_room f 0 len k 0 hd hlt (by omega) (by decide) (by omega)
      have hcell := (hc k hlt).1
      have HS : Hid (val f 0 (k + 1) = val f 0 k * 10 + (f k - 48)) := val_succ f 0 k
      go_wp2_with (go_at_call 21; refine (isDigit_yes _ _ (by omega) (by omega)).mono ?_; rintro e w' ⟨rfl, rfl⟩)
      go_round
      case rel => exact ⟨k + 1, by omega, by go_num, by rw [HS.out]⟩
      case measure => simp [intOf]; omega
    · have e : k = len := by omega
      subst e
      have hv := val_bd f 0 k k hd (Nat.le_refl _) (by omega) 0 (by decide)
      have hp := p10_le18 k h2
      obtain ⟨v1, v2⟩ : 0 ≤ val f 0 k ∧ val f 0 k ≤ 1000000000000000000 := by rw [Nat.add_zero] at hv; omega
      clear hv hp
      go_wp2
      go_ret2
      exact ⟨rfl, rfl⟩

theorem plain_pos_yes (a0 : Int) (f : Nat → Int) (a : Option Addr) (len cap : Nat) (w : World) (ha1 : 48 ≤ a0) (ha2 : a0 ≤ 57) (hd : AllDig f len) (h2 : len ≤ 17) (hs : Sl w a len f) :
    Calls Try.prog 15 #[.int .u8 a0, .slice a len cap] w fun e w' => e = .returned (.tuple #[.int .i64 (val f (a0 - 48) len), .bool true]) ∧ w' = w := by
  have e1 : (a0 == 45) = false := by simp; omega
  have e0 : ((len : Int) + 1 == 0) = false := by simp; omega
  have hp1 : p10 1 = 10 := by decide
  have HP : Hid (a0 - 48 + 1 ≤ p10 1) := by show _ ≤ _; rw [hp1]; omega
  clear hp1
  go_enter Try.func15, Try.ntmps15
  go_wp2
  go_loop [7, 30] (fun v i => ∃ k : Nat, k ≤ len ∧ i = .int .i64 k ∧ v = .int .i64 (val f (a0 - 48) k)) (fun _ i => len - (intOf i).toNat)
  case atStart => exact ⟨0, Nat.zero_le _, rfl, rfl⟩
  case round =>
    obtain ⟨k, hk, rfl, rfl⟩ := hrel
    by_cases hlt : k < len
    · obtain ⟨b, off, rfl, hc⟩ := hs.pos hlt
      obtain ⟨d1, d2⟩ := hd k hlt
      obtain ⟨r1, r2⟩ := val_room f (a0 - 48) len k 1 hd hlt (by omega) HP.out (by omega)
      have hcell := (hc k hlt).1
      have HS : Hid (val f (a0 - 48) (k + 1) = val f (a0 - 48) k * 10 + (f k - 48)) := val_succ f (a0 - 48) k
      go_wp2_with (go_at_call 21; refine (isDigit_yes _ _ (by omega) (by omega)).mono ?_; rintro e w' ⟨rfl, rfl⟩)
      go_round
      case rel => exact ⟨k + 1, by omega, by go_num, by rw [HS.out]⟩
      case measure => simp [intOf]; omega
    · have e : k = len := by omega
      subst e
      go_wp2
      go_ret2
      exact ⟨rfl, rfl⟩

/-- a byte that is no digit: the loop stops at the first one -/
theorem plain_no (a0 : Int) (f : Nat → Int) (a : Option Addr) (len cap : Nat) (w : World) (ha : a0 = 45 ∧ 1 ≤ len ∧ len ≤ 18 ∨ (48 ≤ a0 ∧ a0 ≤ 57) ∧ len ≤ 17) (j : Nat) (hj : j < len) (hn : f j < 48 ∨ 57 < f j) (hs : Sl w a len f) :
    Calls Try.prog 15 #[.int .u8 a0, .slice a len cap] w fun e w' => e = .returned (.tuple #[.int .i64 0, .bool false]) ∧ w' = w := by
  obtain ⟨b, off, rfl, hc⟩ := hs.pos hj
  clear hs
  rcases ha with ⟨rfl, h1, h2⟩ | ⟨⟨ha1, ha2⟩, h2⟩
  · have e0 : ((len : Int) == 0) = false := by simp; omega
    go_enter Try.func15, Try.ntmps15
    go_wp2
    go_loop [7, 30] (fun v i => ∃ (k : Nat) (z : Int), k ≤ j ∧ i = .int .i64 k ∧ v = .int .i64 z) (fun _ i => len - (intOf i).toNat)
    case atStart => exact ⟨0, _, Nat.zero_le _, rfl, rfl⟩
    case round =>
      obtain ⟨k, z, hk, rfl, rfl⟩ := hrel
      have hlt : k < len := by omega
      obtain ⟨hcell, l1, l2⟩ := hc k hlt
      by_cases hdk : 48 ≤ f k ∧ f k ≤ 57
      · obtain ⟨d1, d2⟩ := hdk
        have hkj : k ≠ j := by rintro rfl; omega
        go_wp2_with (go_at_call 21; refine (isDigit_yes _ _ (by omega) (by omega)).mono ?_; rintro e w' ⟨rfl, rfl⟩)
        go_round
        case rel => exact ⟨k + 1, _, by omega, by go_num, rfl⟩
        case measure => simp [intOf]; omega
      · have hno : f k < 48 ∨ 57 < f k := by omega
        go_wp2_with (go_at_call 21; refine (isDigit_no _ _ hno).mono ?_; rintro e w' ⟨rfl, rfl⟩)
        go_ret2
        exact ⟨rfl, rfl⟩
  · have e1 : (a0 == 45) = false := by simp; omega
    have e0 : ((len : Int) + 1 == 0) = false := by simp; omega
    go_enter Try.func15, Try.ntmps15
    go_wp2
    go_loop [7, 30] (fun v i => ∃ (k : Nat) (z : Int), k ≤ j ∧ i = .int .i64 k ∧ v = .int .i64 z) (fun _ i => len - (intOf i).toNat)
    case atStart => exact ⟨0, _, Nat.zero_le _, rfl, rfl⟩
    case round =>
      obtain ⟨k, z, hk, rfl, rfl⟩ := hrel
      have hlt : k < len := by omega
      obtain ⟨hcell, l1, l2⟩ := hc k hlt
      by_cases hdk : 48 ≤ f k ∧ f k ≤ 57
      · obtain ⟨d1, d2⟩ := hdk
        have hkj : k ≠ j := by rintro rfl; omega
        go_wp2_with (go_at_call 21; refine (isDigit_yes _ _ (by omega) (by omega)).mono ?_; rintro e w' ⟨rfl, rfl⟩)
        go_round
        case rel => exact ⟨k + 1, _, by omega, by go_num, rfl⟩
        case measure => simp [intOf]; omega
      · have hno : f k < 48 ∨ 57 < f k := by omega
        go_wp2_with (go_at_call 21; refine (isDigit_no _ _ hno).mono ?_; rintro e w' ⟨rfl, rfl⟩)
        go_ret2
        exact ⟨rfl, rfl⟩

theorem plain_range (a0 : Int) (a : Option Addr) (len cap : Nat) (w : World) (hl : len ≤ 140737488351232) (ha : a0 = 45 ∧ (len = 0 ∨ 18 < len) ∨ (48 ≤ a0 ∧ a0 ≤ 57) ∧ 17 < len) :
    Calls Try.prog 15 #[.int .u8 a0, .slice a len cap] w fun e w' => e = .returned (.tuple #[.int .i64 0, .bool false]) ∧ w' = w := by
  rcases ha with ⟨rfl, rfl | h⟩ | ⟨⟨ha1, ha2⟩, h⟩
  · go_enter Try.func15, Try.ntmps15
    go_wp2
    go_ret2
    exact ⟨rfl, rfl⟩
  · have e0 : ((len : Int) == 0) = false := by simp; omega
    go_enter Try.func15, Try.ntmps15
    go_wp2
    go_ret2
    exact ⟨rfl, rfl⟩
  · have e1 : (a0 == 45) = false := by simp; omega
    have e0 : ((len : Int) + 1 == 0) = false := by simp; omega
    go_enter Try.func15, Try.ntmps15
    go_wp2
    go_ret2
    exact ⟨rfl, rfl⟩

theorem plainInt_any (a0 : Int) (f : Nat → Int) (a : Option Addr) (len cap : Nat) (w : World) (ha : a0 = 45 ∨ (48 ≤ a0 ∧ a0 ≤ 57)) (hl : len ≤ 140737488351232) (hs : Sl w a len f) :
    Calls Try.prog 15 #[.int .u8 a0, .slice a len cap] w fun e w' => ∃ v ok, e = .returned (.tuple #[.int .i64 v, .bool ok]) ∧ Reads a0 f len v ok ∧ w' = w := by
  by_cases hr : a0 = 45 ∧ (len = 0 ∨ 18 < len) ∨ (48 ≤ a0 ∧ a0 ≤ 57) ∧ 17 < len
  · refine (plain_range a0 a len cap w hl hr).mono fun e w' h => ?_
    refine ⟨0, false, h.1, .inl ⟨rfl, rfl, ?_⟩, h.2⟩
    rcases hr with h | h
    · exact .inl h
    · exact .inr (.inl ⟨by omega, h.2⟩)
  · rcases allDig_or f len with hd | ⟨j, hj, hn⟩
    · rcases ha with rfl | ha
      · refine (plain_neg_yes f a len cap w hd (by omega) (by omega) hs).mono fun e w' h => ?_
        exact ⟨_, true, h.1, .inr ⟨rfl, hd, .inl ⟨rfl, by omega, by omega, rfl⟩⟩, h.2⟩
      · refine (plain_pos_yes a0 f a len cap w ha.1 ha.2 hd (by omega) hs).mono fun e w' h => ?_
        exact ⟨_, true, h.1, .inr ⟨rfl, hd, .inr ⟨by omega, by omega, rfl⟩⟩, h.2⟩
    · refine (plain_no a0 f a len cap w (by omega) j hj hn hs).mono fun e w' h => ?_
      exact ⟨0, false, h.1, .inl ⟨rfl, rfl, .inr (.inr ⟨j, hj, hn⟩)⟩, h.2⟩

theorem zzPlainInt_any (a0 : Int) (f : Nat → Int) (a : Option Addr) (len cap : Nat) (w : World) (ha : a0 = 45 ∨ (48 ≤ a0 ∧ a0 ≤ 57)) (hl : len ≤ 140737488351232) (hs : Sl w a len f) :
    Calls Try.prog 9 #[.int .u8 a0, .slice a len cap] w fun e w' => ∃ v ok, e = .returned (.tuple #[.int .i64 v, .bool ok]) ∧ Reads a0 f len v ok ∧ w' = w := by
  go_enter Try.func9, Try.ntmps9
  go_wp2_with (go_at_call 15; refine (plainInt_any a0 f a len cap _ ha hl hs).mono ?_; rintro e w' ⟨v, ok, rfl, hr, rfl⟩)
  go_ret2
  exact ⟨v, ok, rfl, hr, rfl⟩
end Go.Proofs.Qxb6604222a.Ints
