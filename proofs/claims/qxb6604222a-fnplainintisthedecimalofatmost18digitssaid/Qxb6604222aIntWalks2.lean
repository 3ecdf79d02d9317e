/-
  The walk of zzPlainIntModel.
-/
import Derived.Test.Qxb6604222aIntWalks
namespace Go.Proofs.Qxb6604222a.Ints
open Go.ChangeShapes Go.WideShapes Go.ChangeAt Go.RowKit
set_option linter.unusedVariables false

set_option maxHeartbeats 1000000 in
theorem model_neg_yes (f : Nat → Int) (a : Option Addr) (len cap : Nat) (w : World) (hd : AllDig f len) (h1 : 1 ≤ len) (h2 : len ≤ 18) (hs : Sl w a len f) :
    Calls Try.prog 10 #[.int .u8 45, .slice a len cap] w fun e w' => e = .returned (.tuple #[.int .i64 (-wsum f len len), .bool true]) ∧ w' = w := by
  have e0 : decide ((len : Int) < 1) = false := by simp; omega
  go_enter Try.func10, Try.ntmps10
  go_wp2
  go_loop [8] (fun i => ∃ k : Nat, k ≤ len ∧ i = .int .i64 k) (fun i => len - (intOf i).toNat)
  case atStart => exact ⟨0, Nat.zero_le _, rfl⟩
  case round =>
    obtain ⟨k, hk, rfl⟩ := hrel
    by_cases hlt : k < len
    · obtain ⟨b, off, rfl, hc⟩ := hs.pos hlt
      obtain ⟨d1, d2⟩ := hd k hlt
      have hcell := (hc k hlt).1
      have g1 : decide (f k < 48) = false := by simp; omega
      go_wp2
      go_round
      case rel => exact ⟨k + 1, by omega, by go_num⟩
      case measure => simp [intOf]; omega
    · have e : k = len := by omega
      clear hlt
      subst e
      go_wp2
      go_loop [9, 10, 11] (fun s p i => ∃ n : Nat, n ≤ k ∧ i = .int .i64 ((k : Int) - 1 - n) ∧ s = .int .i64 (wsum f k n) ∧ p = .int .i64 (p10 n)) (fun _ _ i => (intOf i + 1).toNat)
      case atStart => exact ⟨0, Nat.zero_le _, by go_num, rfl, rfl⟩
      case round =>
        obtain ⟨n, hn, rfl, rfl, rfl⟩ := hrel
        have hw := wsum_bd f k n hd hn
        by_cases hlt : n < k
        · obtain ⟨b, off, rfl, hc⟩ := hs.pos hlt
          obtain ⟨d1, d2⟩ := hd (k - 1 - n) (by omega)
          have hcell := (hc (k - 1 - n) (by omega)).1
          have hp := p10_pos n
          have hp2 := p10_le17 n (by omega)
          obtain ⟨m1, m2⟩ := prod_bd (f (k - 1 - n)) (p10 n) d1 d2 hp
          have HS : Hid (wsum f k (n + 1) = wsum f k n + (f (k - 1 - n) - 48) * p10 n) := wsum_succ f k n
          have HP : Hid (p10 (n + 1) = p10 n * 10) := p10_succ n
          go_wp2
          go_round
          case rel => exact ⟨n + 1, by omega, by go_num, by rw [HS.out], by rw [HP.out]⟩
          case measure => simp [intOf]; omega
        · have e : n = k := by omega
          subst e
          have hp := p10_le18 n h2
          go_wp2
          go_ret2
          exact ⟨rfl, rfl⟩
set_option maxHeartbeats 1000000 in
theorem model_pos_yes (a0 : Int) (f : Nat → Int) (a : Option Addr) (len cap : Nat) (w : World) (ha1 : 48 ≤ a0) (ha2 : a0 ≤ 57) (hd : AllDig f len) (h2 : len ≤ 17) (hs : Sl w a len f) :
    Calls Try.prog 10 #[.int .u8 a0, .slice a len cap] w fun e w' => e = .returned (.tuple #[.int .i64 (wsum f len len + (a0 - 48) * p10 len), .bool true]) ∧ w' = w := by
  have e1 : (a0 == 45) = false := by simp; omega
  have e0 : decide ((len : Int) + 1 < 1) = false := by simp; omega
  go_enter Try.func10, Try.ntmps10
  go_wp2
  go_loop [8] (fun i => ∃ k : Nat, k ≤ len ∧ i = .int .i64 k) (fun i => len - (intOf i).toNat)
  case atStart => exact ⟨0, Nat.zero_le _, rfl⟩
  case round =>
    obtain ⟨k, hk, rfl⟩ := hrel
    by_cases hlt : k < len
    · obtain ⟨b, off, rfl, hc⟩ := hs.pos hlt
      obtain ⟨d1, d2⟩ := hd k hlt
      have hcell := (hc k hlt).1
      have g1 : decide (f k < 48) = false := by simp; omega
      go_wp2
      go_round
      case rel => exact ⟨k + 1, by omega, by go_num⟩
      case measure => simp [intOf]; omega
    · have e : k = len := by omega
      clear hlt
      subst e
      go_wp2
      go_loop [9, 10, 11] (fun s p i => ∃ n : Nat, n ≤ k ∧ i = .int .i64 ((k : Int) - 1 - n) ∧ s = .int .i64 (wsum f k n) ∧ p = .int .i64 (p10 n)) (fun _ _ i => (intOf i + 1).toNat)
      case atStart => exact ⟨0, Nat.zero_le _, by go_num, rfl, rfl⟩
      case round =>
        obtain ⟨n, hn, rfl, rfl, rfl⟩ := hrel
        have hw := wsum_bd f k n hd hn
        by_cases hlt : n < k
        · obtain ⟨b, off, rfl, hc⟩ := hs.pos hlt
          obtain ⟨d1, d2⟩ := hd (k - 1 - n) (by omega)
          have hcell := (hc (k - 1 - n) (by omega)).1
          have hp := p10_pos n
          have hp2 := p10_le17 n (by omega)
          obtain ⟨m1, m2⟩ := prod_bd (f (k - 1 - n)) (p10 n) d1 d2 hp
          have HS : Hid (wsum f k (n + 1) = wsum f k n + (f (k - 1 - n) - 48) * p10 n) := wsum_succ f k n
          have HP : Hid (p10 (n + 1) = p10 n * 10) := p10_succ n
          go_wp2
          go_round
          case rel => exact ⟨n + 1, by omega, by go_num, by rw [HS.out], by rw [HP.out]⟩
          case measure => simp [intOf]; omega
        · have e : n = k := by omega
          subst e
          have hp := p10_pos n
          have hp2 := p10_le17 n h2
          obtain ⟨m1, m2⟩ := prod_bd a0 (p10 n) ha1 ha2 hp
          go_wp2
          go_ret2
          exact ⟨rfl, rfl⟩
set_option maxHeartbeats 1000000 in
/-- a byte that is no digit: the loop stops at the first one -/
theorem model_no (a0 : Int) (f : Nat → Int) (a : Option Addr) (len cap : Nat) (w : World) (ha : a0 = 45 ∧ 1 ≤ len ∧ len ≤ 18 ∨ (48 ≤ a0 ∧ a0 ≤ 57) ∧ len ≤ 17) (j : Nat) (hj : j < len) (hn : f j < 48 ∨ 57 < f j) (hs : Sl w a len f) :
    Calls Try.prog 10 #[.int .u8 a0, .slice a len cap] w fun e w' => e = .returned (.tuple #[.int .i64 0, .bool false]) ∧ w' = w := by
  obtain ⟨b, off, rfl, hc⟩ := hs.pos hj
  clear hs
  rcases ha with ⟨rfl, h1, h2⟩ | ⟨⟨ha1, ha2⟩, h2⟩
  · have e0 : decide ((len : Int) < 1) = false := by simp; omega
    go_enter Try.func10, Try.ntmps10
    go_wp2
    go_loop [8] (fun i => ∃ k : Nat, k ≤ j ∧ i = .int .i64 k) (fun i => len - (intOf i).toNat)
    case atStart => exact ⟨0, Nat.zero_le _, rfl⟩
    case round =>
      obtain ⟨k, hk, rfl⟩ := hrel
      have hlt : k < len := by omega
      obtain ⟨hcell, l1, l2⟩ := hc k hlt
      by_cases hdk : 48 ≤ f k ∧ f k ≤ 57
      · obtain ⟨d1, d2⟩ := hdk
        have hkj : k ≠ j := by rintro rfl; omega
        have g1 : decide (f k < 48) = false := by simp; omega
        go_wp2
        go_round
        case rel => exact ⟨k + 1, by omega, by go_num⟩
        case measure => simp [intOf]; omega
      · by_cases hno : f k < 48
        · go_wp2
          go_ret2
          exact ⟨rfl, rfl⟩
        · have hno2 : 57 < f k := by omega
          have g1 : decide (f k < 48) = false := by simp; omega
          go_wp2
          go_ret2
          exact ⟨rfl, rfl⟩
  · have e1 : (a0 == 45) = false := by simp; omega
    have e0 : decide ((len : Int) + 1 < 1) = false := by simp; omega
    go_enter Try.func10, Try.ntmps10
    go_wp2
    go_loop [8] (fun i => ∃ k : Nat, k ≤ j ∧ i = .int .i64 k) (fun i => len - (intOf i).toNat)
    case atStart => exact ⟨0, Nat.zero_le _, rfl⟩
    case round =>
      obtain ⟨k, hk, rfl⟩ := hrel
      have hlt : k < len := by omega
      obtain ⟨hcell, l1, l2⟩ := hc k hlt
      by_cases hdk : 48 ≤ f k ∧ f k ≤ 57
      · obtain ⟨d1, d2⟩ := hdk
        have hkj : k ≠ j := by rintro rfl; omega
        have g1 : decide (f k < 48) = false := by simp; omega
        go_wp2
        go_round
        case rel => exact ⟨k + 1, by omega, by go_num⟩
        case measure => simp [intOf]; omega
      · by_cases hno : f k < 48
        · go_wp2
          go_ret2
          exact ⟨rfl, rfl⟩
        · have hno2 : 57 < f k := by omega
          have g1 : decide (f k < 48) = false := by simp; omega
          go_wp2
          go_ret2
          exact ⟨rfl, rfl⟩

theorem model_range (a0 : Int) (a : Option Addr) (len cap : Nat) (w : World) (hl : len ≤ 140737488351232) (ha : a0 = 45 ∧ (len = 0 ∨ 18 < len) ∨ (48 ≤ a0 ∧ a0 ≤ 57) ∧ 17 < len) :
    Calls Try.prog 10 #[.int .u8 a0, .slice a len cap] w fun e w' => e = .returned (.tuple #[.int .i64 0, .bool false]) ∧ w' = w := by
  rcases ha with ⟨rfl, rfl | h⟩ | ⟨⟨ha1, ha2⟩, h⟩
  · go_enter Try.func10, Try.ntmps10
    go_wp2
    go_ret2
    exact ⟨rfl, rfl⟩
  · have e0 : decide ((len : Int) < 1) = false := by simp; omega
    go_enter Try.func10, Try.ntmps10
    go_wp2
    go_ret2
    exact ⟨rfl, rfl⟩
  · have e1 : (a0 == 45) = false := by simp; omega
    have e0 : decide ((len : Int) + 1 < 1) = false := by simp; omega
    go_enter Try.func10, Try.ntmps10
    go_wp2
    go_ret2
    exact ⟨rfl, rfl⟩

theorem model_any (a0 : Int) (f : Nat → Int) (a : Option Addr) (len cap : Nat) (w : World) (ha : a0 = 45 ∨ (48 ≤ a0 ∧ a0 ≤ 57)) (hl : len ≤ 140737488351232) (hs : Sl w a len f) :
    Calls Try.prog 10 #[.int .u8 a0, .slice a len cap] w fun e w' => ∃ v ok, e = .returned (.tuple #[.int .i64 v, .bool ok]) ∧ Reads a0 f len v ok ∧ w' = w := by
  by_cases hr : a0 = 45 ∧ (len = 0 ∨ 18 < len) ∨ (48 ≤ a0 ∧ a0 ≤ 57) ∧ 17 < len
  · refine (model_range a0 a len cap w hl hr).mono fun e w' h => ?_
    refine ⟨0, false, h.1, .inl ⟨rfl, rfl, ?_⟩, h.2⟩
    rcases hr with h | h
    · exact .inl h
    · exact .inr (.inl ⟨by omega, h.2⟩)
  · rcases allDig_or f len with hd | ⟨j, hj, hn⟩
    · rcases ha with rfl | ha
      · refine (model_neg_yes f a len cap w hd (by omega) (by omega) hs).mono fun e w' h => ?_
        exact ⟨_, true, h.1, .inr ⟨rfl, hd, .inl ⟨rfl, by omega, by omega, by rw [val_wsum]; simp⟩⟩, h.2⟩
      · refine (model_pos_yes a0 f a len cap w ha.1 ha.2 hd (by omega) hs).mono fun e w' h => ?_
        exact ⟨_, true, h.1, .inr ⟨rfl, hd, .inr ⟨by omega, by omega, by rw [val_wsum]; omega⟩⟩, h.2⟩
    · refine (model_no a0 f a len cap w (by omega) j hj hn hs).mono fun e w' h => ?_
      exact ⟨0, false, h.1, .inl ⟨rfl, rfl, .inr (.inr ⟨j, hj, hn⟩)⟩, h.2⟩

theorem zzBytes_yes (a0 : Int) (a : Option Addr) (len cap : Nat) (w : World) (h : len ≤ 1048576) :
    Calls Try.prog 8 #[.int .u8 a0, .slice a len cap] w fun e w' => e = .returned (.bool true) ∧ w' = w := by
  go_enter Try.func8, Try.ntmps8
  go_wp2
  go_ret
  exact ⟨rfl, rfl⟩

theorem zzBytes_no (a0 : Int) (a : Option Addr) (len cap : Nat) (w : World) (h : 1048576 < len) :
    Calls Try.prog 8 #[.int .u8 a0, .slice a len cap] w fun e w' => e = .returned (.bool false) ∧ w' = w := by
  go_enter Try.func8, Try.ntmps8
  go_wp2
  go_ret
  exact ⟨rfl, rfl⟩
end Go.Proofs.Qxb6604222a.Ints
