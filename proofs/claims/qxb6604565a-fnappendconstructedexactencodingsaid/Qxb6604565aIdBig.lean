/-
  The walk of appendIdentifier at a large tag number.
-/
import Derived.Deep.RegionLaw
import Derived.Test.Qxb6604565aApd
namespace Go.Proofs.Qxb6604565a.Ber
open Go.ChangeShapes Go.WideShapes Go.ChangeAt Go.RowKit
set_option linter.unusedVariables false

set_option maxRecDepth 100000 in
set_option maxHeartbeats 4000000 in
theorem identifier_big (c num : Int) (hc1 : 0 ≤ c) (hc2 : c ≤ 255) (hs : 31 ≤ num) (hn : num ≤ 4294967295) (B n : Nat) (sv : Value) (xs : List Value) (w : World) (hown : Apd w B sv n xs) (hBw : B ≤ w.heap.size) (hlim : n ≤ 3999990) :
    Calls Try.prog 19 #[sv, .agg #[.int .u8 c, .int .u32 num], .bool true] w fun r w' => ∃ v' K, r = .returned v' ∧ Wd 128 num K ∧ w'.ownsRow B 5 1 v' (n + (ident c num K).length) (xs ++ cells (ident c num K)) ∧ Below B w w' := by
  have o32 := or32 c hc1
  have onum := or31 c 31 (by omega) (by omega)
  have hwr : IntKind.u64.wrap num = num := IntWalk.u64_in num ⟨by omega, by omega⟩
  have HOW := Lib.hid hown
  have HOA := Lib.hid (((hown.alloc (.cells #[.int .u8 c, .int .u32 num] 28)).alloc (.cells #[.int .u8 (c % 4 * 64 + 32 + 31)] 5)).drew)
  have hc1' := one_cells (w.alloc (.cells #[.int .u8 c, .int .u32 num] 28)) (.int .u8 (c % 4 * 64 + 32 + 31)) 5
  rw [show (w.alloc (.cells #[.int .u8 c, .int .u32 num] 28)).heap.size = w.heap.size + 1 by simp] at hc1'
  have HC1 : Hid (∀ j y, ([.int .u8 (c % 4 * 64 + 32 + 31)] : List Value)[j]? = some y → ((w.alloc (.cells #[.int .u8 c, .int .u32 num] 28)).alloc (.cells #[.int .u8 (c % 4 * 64 + 32 + 31)] 5)).drew.cell? ((⟨w.heap.size + 1, 0, none⟩ : Addr).add j) = some y) := hc1'
  have HBB : Hid (Below B w ((w.alloc (.cells #[.int .u8 c, .int .u32 num] 28)).alloc (.cells #[.int .u8 (c % 4 * 64 + 32 + 31)] 5)).drew) := (((Below.refl _ _).alloc hBw _).alloc (by simp; omega) _).drew
  have HB2 : Hid (B ≤ ((w.alloc (.cells #[.int .u8 c, .int .u32 num] 28)).alloc (.cells #[.int .u8 (c % 4 * 64 + 32 + 31)] 5)).drew.heap.size) := by show _ ≤ _; simp; omega
  have HI : Hid (∀ K, ident c num K = [c % 4 * 64 + 32 + 31] ++ b128 num K) := by intro K; unfold ident; rw [if_neg (by omega)]
  clear hown hc1'
  go_enter Try.func19, Try.ntmps19
  go_wp2_with fail
  go_region_law
    (first
      | (refine step_apd _ rfl (.tmp 25) (.tmp 28) rfl B sv n xs (by rfl) HOA.out ⟨w.heap.size + 1, 0, none⟩ 1 1 [.int .u8 (c % 4 * 64 + 32 + 31)] (by rfl) rfl HC1.out (by intro x hx; simp at hx; subst hx; rfl) (by omega) (by omega) HB2.out ?_
         intro v0 w0 hown0 hgrow0
         have hcell0 := (hgrow0.cell HOW.out w.heap.size 1 (Nat.le_refl _) (by simp; omega)).trans (show _ = some (Value.int .u32 num) by simp)
         have HO0 := Lib.hid hown0
         have HB0 := Lib.hid (Nat.le_trans HB2.out hgrow0.size)
         have HBL := Lib.hid (hgrow0.below HBB.out HB2.out)
         clear hown0 hgrow0)
      | (go_simp
         go_at_call 22
         refine (base128_any num _ (by omega) (by omega) B _ _ _ HO0.out HB0.out (by omega)).mono ?_
         rintro e w1 ⟨v1, K, rfl, hW, hown1, hbel1⟩
         have HW1 := Lib.hid hW
         have HO1 := Lib.hid hown1
         have HBL1 := Lib.hid (HBL.out.trans hbel1)
         clear hW hown1 hbel1))
  all_goals go_wp2
  all_goals go_ret
  all_goals refine ⟨_, K, rfl, HW1.out, owns_eq HO1.out ?_ ?_, HBL1.out⟩
  all_goals rw [HI.out K]
  all_goals simp [b128_length, cells]
  all_goals omega
end Go.Proofs.Qxb6604565a.Ber
