/-
  The walks of the laws' own helpers: zzIsLeap, zzMonthLen, zzFloorDiv, zzLeapsUpTo, zzDaysBeforeMonth, zzCivilDays.
-/
import Derived.Test.Qxb6604222aDateWalks
import Derived.Test.Qxb6604222aDateMonths
namespace Go.Proofs.Qxb6604222a.Dates
open Go.ChangeShapes Go.WideShapes Go.ChangeAt Go.RowKit
set_option linter.unusedVariables false

theorem ret_bool {a b : Bool} (h : a = b) : Ending.returned (.bool a) = .returned (.bool b) := by rw [h]

theorem tmod_beq (y b : Int) (hb : 2 ≤ b) : (y.tmod b == 0) = (y % b == 0) := by
  rw [Bool.eq_iff_iff, beq_iff_eq, beq_iff_eq, ← Int.dvd_iff_tmod_eq_zero, ← Int.dvd_iff_emod_eq_zero]

theorem isLeap_any (y : Int) (w : World) :
    Calls Try.prog 18 #[.int .i64 y] w fun e w' => e = .returned (.bool (leapB y)) ∧ w' = w := by
  have e1 := tmod_beq y 4 (by omega)
  have e2 := tmod_beq y 100 (by omega)
  have e3 := tmod_beq y 400 (by omega)
  have hl : leapB y = (y.tmod 4 == 0 && (y.tmod 100 != 0 || y.tmod 400 == 0)) := by
    unfold leapB bne; rw [e1, e2, e3]
  have H : Hid (leapB y = (y.tmod 4 == 0 && (y.tmod 100 != 0 || y.tmod 400 == 0))) := hl
  clear e1 e2 e3 hl
  cases h4 : (y.tmod 4 == 0)
  · go_enter Try.func18, Try.ntmps18
    go_wp2
    go_ret
    exact ⟨ret_bool (by rw [H.out, h4]; rfl), rfl⟩
  · cases h100 : (y.tmod 100 != 0)
    · go_enter Try.func18, Try.ntmps18
      go_wp2
      go_ret
      exact ⟨ret_bool (by rw [H.out, h4, h100]; rfl), rfl⟩
    · go_enter Try.func18, Try.ntmps18
      go_wp2
      go_ret
      exact ⟨ret_bool (by rw [H.out, h4, h100]; rfl), rfl⟩

theorem isLeap_is (y : Int) (b : Bool) (w : World) (h : leapB y = b) :
    Calls Try.prog 18 #[.int .i64 y] w fun e w' => e = .returned (.bool b) ∧ w' = w := by
  rw [← h]; exact isLeap_any y w

theorem zzFloorDiv_any (a b : Int) (w : World) (h1 : -9223372036854775808 ≤ a) (h2 : a ≤ 9223372036854775807) (hb : 2 ≤ b) (hb2 : b ≤ 1000000) :
    Calls Try.prog 23 #[.int .i64 a, .int .i64 b] w fun e w' => e = .returned (.int .i64 (a / b)) ∧ w' = w := by
  go_enter Try.func23, Try.ntmps23
  go_wp2
  · have h : a.tmod b < 0 := by assumption
    go_ret
    exact ⟨ret_int (by have := floor_neg a b hb h; have := div_bd a b hb h1 h2; rw [IntWalk.wrap64_in _ ⟨by omega, by omega⟩]; omega), rfl⟩
  · have h : 0 ≤ a.tmod b := by assumption
    go_ret
    exact ⟨ret_int (floor_pos a b hb h), rfl⟩

theorem zzLeapsUpTo_any (y : Int) (w : World) (h1 : -4000000000000000000 ≤ y) (h2 : y ≤ 4000000000000000000) :
    Calls Try.prog 19 #[.int .i64 y] w fun e w' => e = .returned (.int .i64 (leaps y)) ∧ w' = w := by
  go_enter Try.func19, Try.ntmps19
  go_wp2_with (go_at_call 23; refine (zzFloorDiv_any _ _ _ (by omega) (by omega) (by omega) (by omega)).mono ?_; rintro e w' ⟨rfl, rfl⟩)
  go_ret
  exact ⟨rfl, rfl⟩

theorem zzMonthLen_any (y m : Int) (w : World) :
    Calls Try.prog 13 #[.int .i64 y, .int .i64 m] w fun e w' => e = .returned (.int .i64 (mlen y m)) ∧ w' = w := by
  by_cases h2 : m = 2
  · subst h2
    cases hb : leapB y
    · go_enter Try.func13, Try.ntmps13
      go_wp2_with (go_at_call 18; refine (isLeap_is y false _ hb).mono ?_; rintro e w' ⟨rfl, rfl⟩)
      go_ret
      exact ⟨ret_int (by simp [mlen, hb]), rfl⟩
    · go_enter Try.func13, Try.ntmps13
      go_wp2_with (go_at_call 18; refine (isLeap_is y true _ hb).mono ?_; rintro e w' ⟨rfl, rfl⟩)
      go_ret
      exact ⟨ret_int (by simp [mlen, hb]), rfl⟩
  · by_cases h4 : m = 4
    · subst h4
      go_enter Try.func13, Try.ntmps13
      go_wp2
      go_ret
      exact ⟨ret_int (by simp [mlen]), rfl⟩
    by_cases h6 : m = 6
    · subst h6
      go_enter Try.func13, Try.ntmps13
      go_wp2
      go_ret
      exact ⟨ret_int (by simp [mlen]), rfl⟩
    by_cases h9 : m = 9
    · subst h9
      go_enter Try.func13, Try.ntmps13
      go_wp2
      go_ret
      exact ⟨ret_int (by simp [mlen]), rfl⟩
    by_cases h11 : m = 11
    · subst h11
      go_enter Try.func13, Try.ntmps13
      go_wp2
      go_ret
      exact ⟨ret_int (by simp [mlen]), rfl⟩
    have e2 : (m == 2) = false := by simpa using h2
    have e4 : (m == 4) = false := by simpa using h4
    have e6 : (m == 6) = false := by simpa using h6
    have e9 : (m == 9) = false := by simpa using h9
    have e11 : (m == 11) = false := by simpa using h11
    go_enter Try.func13, Try.ntmps13
    go_wp2
    go_ret
    exact ⟨ret_int (by simp [mlen, h2, h4, h6, h9, h11]), rfl⟩

set_option maxHeartbeats 1000000 in
theorem zzDaysBeforeMonth_any (m : Int) (w : World) (h1 : 1 ≤ m) (h2 : m ≤ 12) :
    Calls Try.prog 20 #[.int .i64 m] w fun e w' => e = .returned (.int .i64 (bm m)) ∧ w' = w := by
  have : m = 1 ∨ m = 2 ∨ m = 3 ∨ m = 4 ∨ m = 5 ∨ m = 6 ∨ m = 7 ∨ m = 8 ∨ m = 9 ∨ m = 10 ∨ m = 11 ∨ m = 12 := by omega
  rcases this with rfl | rfl | rfl | rfl | rfl | rfl | rfl | rfl | rfl | rfl | rfl | rfl
  all_goals
    clear h1 h2
    go_enter Try.func20, Try.ntmps20
    go_wp2
    go_ret
    exact ⟨rfl, rfl⟩

theorem leaps_bd (y : Int) (h1 : -4000000000000000000 ≤ y) (h2 : y ≤ 4000000000000000000) : -1000000000000000000 ≤ leaps y ∧ leaps y ≤ 1000000000000000000 := by
  unfold leaps; omega
theorem bm_bd (m : Int) : 0 ≤ bm m ∧ bm m ≤ 334 := by
  unfold bm; repeat (first | (split; · omega) | omega)

set_option maxHeartbeats 1000000 in
theorem zzCivilDays_any (y m d : Int) (w : World) (h1 : 1 ≤ m) (h2 : m ≤ 12) (h3 : 1 ≤ d) (h4 : d ≤ 31) (y1 : -25260000000000000 ≤ y) (y2 : y ≤ 25260000000000000) :
    Calls Try.prog 14 #[.int .i64 y, .int .i64 m, .int .i64 d] w fun e w' => e = .returned (.int .i64 (wrap64 (civ y m d))) ∧ w' = w := by
  have hl : leaps 1969 = 477 := by rfl
  have hbd := leaps_bd (y - 1) (by omega) (by omega)
  have hbm := bm_bd m
  by_cases hm : 2 < m
  · cases hb : leapB y
    · have hc : civ y m d = 365 * (y - 1970) + leaps (y - 1) - 477 + bm m + (d - 1) := by simp [civ, hb]
      have H : Hid (civ y m d = 365 * (y - 1970) + leaps (y - 1) - 477 + bm m + (d - 1)) := hc
      clear hc
      go_enter Try.func14, Try.ntmps14
      go_wp2_with (first | (go_at_call 18; refine (isLeap_is y false _ hb).mono ?_; rintro e w' ⟨rfl, rfl⟩) | (go_at_call 19; refine (zzLeapsUpTo_any _ _ (by omega) (by omega)).mono ?_; rintro e w' ⟨rfl, rfl⟩) | (go_at_call 20; refine (zzDaysBeforeMonth_any _ _ (by omega) (by omega)).mono ?_; rintro e w' ⟨rfl, rfl⟩))
      go_ret
      exact ⟨ret_int (by rw [H.out]; unfold wrap64; omega), rfl⟩
    · have hc : civ y m d = 365 * (y - 1970) + leaps (y - 1) - 477 + bm m + 1 + (d - 1) := by simp [civ, hb, hm]
      have H : Hid (civ y m d = 365 * (y - 1970) + leaps (y - 1) - 477 + bm m + 1 + (d - 1)) := hc
      clear hc
      go_enter Try.func14, Try.ntmps14
      go_wp2_with (first | (go_at_call 18; refine (isLeap_is y true _ hb).mono ?_; rintro e w' ⟨rfl, rfl⟩) | (go_at_call 19; refine (zzLeapsUpTo_any _ _ (by omega) (by omega)).mono ?_; rintro e w' ⟨rfl, rfl⟩) | (go_at_call 20; refine (zzDaysBeforeMonth_any _ _ (by omega) (by omega)).mono ?_; rintro e w' ⟨rfl, rfl⟩))
      go_ret
      exact ⟨ret_int (by rw [H.out]; unfold wrap64; omega), rfl⟩
  · have hc : civ y m d = 365 * (y - 1970) + leaps (y - 1) - 477 + bm m + (d - 1) := by simp [civ, hm]
    have H : Hid (civ y m d = 365 * (y - 1970) + leaps (y - 1) - 477 + bm m + (d - 1)) := hc
    clear hc
    go_enter Try.func14, Try.ntmps14
    go_wp2_with (first | (go_at_call 19; refine (zzLeapsUpTo_any _ _ (by omega) (by omega)).mono ?_; rintro e w' ⟨rfl, rfl⟩) | (go_at_call 20; refine (zzDaysBeforeMonth_any _ _ (by omega) (by omega)).mono ?_; rintro e w' ⟨rfl, rfl⟩))
    go_ret
    exact ⟨ret_int (by rw [H.out]; unfold wrap64; omega), rfl⟩

theorem yy_bd2 (n : Int) (h1 : -9223372036854775808 ≤ n) (h2 : n ≤ 9223372036854775807) : -25260000000000000 ≤ yy n ∧ yy n ≤ 25260000000000000 := by
  have hy := yoe_bd (doe n) (doe_bd n)
  have he : -63140000000000 ≤ era n ∧ era n ≤ 63140000000000 := by unfold era; omega
  unfold yy; split <;> omega
theorem da_31 (n : Int) : 1 ≤ da n ∧ da n ≤ 31 := dd_bd _ (doy_bd _ (doe_bd n)).1 (doy_bd _ (doe_bd n)).2

/-- the count of the date, as the Go text reckons it, is the day itself -/
theorem zzCivilDays_date (n : Int) (w : World) (h1 : -9223372036854775808 ≤ n) (h2 : n ≤ 9223372036854775807) :
    Calls Try.prog 14 #[.int .i64 (yy n), .int .i64 (mo n), .int .i64 (da n)] w fun e w' => e = .returned (.int .i64 n) ∧ w' = w := by
  have hy := yy_bd2 n h1 h2
  have g := zzCivilDays_any (yy n) (mo n) (da n) w (mo_bd n).1 (mo_bd n).2 (da_31 n).1 (da_31 n).2 hy.1 hy.2
  rw [civ_date, IntWalk.wrap64_in n ⟨by omega, by omega⟩] at g
  exact g
end Go.Proofs.Qxb6604222a.Dates
