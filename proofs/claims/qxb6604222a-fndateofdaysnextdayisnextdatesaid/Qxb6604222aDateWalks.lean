/-
  The walks of floorDiv, dateOfDays and ZZdateOfDays.
-/
import Derived.Test.Qxb6604222aRows
import Derived.WalkKit
import Derived.ProofKit
import Derived.OwnWalk
import Derived.Outline
import Derived.Test.Qxb6604222aDatePlain
namespace Go.Proofs.Qxb6604222a.Dates
open Go.ChangeShapes Go.WideShapes Go.ChangeAt Go.RowKit
set_option linter.unusedVariables false

theorem ret_int {k : IntKind} {a b : Int} (h : a = b) : Ending.returned (.int k a) = .returned (.int k b) := by rw [h]
theorem ret_int3 {k : IntKind} {a b c a' b' c' : Int} (h1 : a = a') (h2 : b = b') (h3 : c = c') : Ending.returned (.tuple #[.int k a, .int k b, .int k c]) = .returned (.tuple #[.int k a', .int k b', .int k c']) := by rw [h1, h2, h3]

/-- floorDiv, whatever a (an int64), by b from 2 on. -/
theorem floorDiv_any (a b : Int) (w : World) (h1 : -9223372036854775808 ≤ a) (h2 : a ≤ 9223372036854775807) (hb : 2 ≤ b) (hb2 : b ≤ 1000000) :
    Calls Try.prog 22 #[.int .i64 a, .int .i64 b] w fun e w' => e = .returned (.int .i64 (a / b)) ∧ w' = w := by
  go_enter Try.func22, Try.ntmps22
  go_wp2
  · have h : a.tmod b < 0 := by assumption
    go_ret
    exact ⟨ret_int (by have := floor_neg a b hb h; have := div_bd a b hb h1 h2; rw [IntWalk.wrap64_in _ ⟨by omega, by omega⟩]; omega), rfl⟩
  · have h : 0 ≤ a.tmod b := by assumption
    go_ret
    exact ⟨ret_int (floor_pos a b hb h), rfl⟩

set_option maxHeartbeats 1000000 in
theorem dateOfDays_any (n : Int) (w : World) (h1 : -9223372036854775808 ≤ n) (h2 : n ≤ 9223372036854775807 - 719468) :
    Calls Try.prog 17 #[.int .i64 n] w fun e w' => e = .returned (.tuple #[.int .i64 (yy n), .int .i64 (mo n), .int .i64 (da n)]) ∧ w' = w := by
  have hb := doy_bd (doe n) (doe_bd n)
  unfold doy ahead yoe doe era at hb
  obtain ⟨hb1, hb2⟩ := hb
  go_enter Try.func17, Try.ntmps17
  go_wp2_with (go_at_call 22; refine (floorDiv_any _ _ _ (by omega) (by omega) (by omega) (by omega)).mono ?_; rintro e w' ⟨rfl, rfl⟩)
  · go_ret3
    refine ⟨ret_int3 ?_ rfl rfl, rfl⟩
    unfold yy; rw [if_pos ‹_›]; rfl
  · go_ret3
    refine ⟨ret_int3 ?_ rfl rfl, rfl⟩
    unfold yy; rw [if_neg (Int.not_le.mpr ‹_›)]; rfl

theorem zzDateOfDays_any (n : Int) (w : World) (h1 : -9223372036854775808 ≤ n) (h2 : n ≤ 9223372036854775807 - 719468) :
    Calls Try.prog 12 #[.int .i64 n] w fun e w' => e = .returned (.tuple #[.int .i64 (yy n), .int .i64 (mo n), .int .i64 (da n)]) ∧ w' = w := by
  go_enter Try.func12, Try.ntmps12
  go_wp2_with (go_at_call 17; refine (dateOfDays_any _ _ (by omega) (by omega)).mono ?_; rintro e w' ⟨rfl, rfl⟩)
  go_ret3
  exact ⟨rfl, rfl⟩
end Go.Proofs.Qxb6604222a.Dates
