/-
  The walk of finishLength.
-/
import Derived.Laws.CopyOwn
import Derived.Test.Qxb6604565aGrow
namespace Go.Proofs.Qxb6604565a.Ber
open Go.ChangeShapes Go.WideShapes Go.ChangeAt Go.RowKit
set_option linter.unusedVariables false

theorem set_mid {α : Type} (pre xc : List α) (x u : α) (at' : Nat) (h : pre.length = at') : (pre ++ x :: xc).set at' u = pre ++ u :: xc := by
  subst h
  rw [List.set_append_right _ _ (Nat.le_refl _), Nat.sub_self]
  rfl
theorem get_mid {α : Type} (pre xc : List α) (x : α) (at' : Nat) (h : pre.length = at') : (pre ++ x :: xc)[at']? = some x := by
  subst h
  simp
theorem below_set {w0 w : World} {B g cap n : Nat} {xs : List Value} (hb : Below B w0 w) (h : w.ownsRow B 5 1 (.slice (some ⟨g, 0, none⟩) n cap) n xs) (j : Nat) (u : Value) : Below B w0 (w.setCell ⟨g, j, none⟩ u) :=
  hb.setCell (h.lt g rfl).1 _

set_option maxRecDepth 100000 in
set_option maxHeartbeats 1000000 in
theorem finish_small (a n N B g cap : Nat) (pre xc : List Value) (x0 : Value) (w : World) (hN : N = a + 1 + n) (hpre : pre.length = a) (hn : n < 128) (ha : a ≤ 4000000)
    (hown : w.ownsRow B 5 1 (.slice (some ⟨g, 0, none⟩) N cap) N (pre ++ x0 :: xc)) (hBw : B ≤ w.heap.size) :
    Calls Try.prog 20 #[.slice (some ⟨g, 0, none⟩) N cap, .int .i64 (a : Int)] w fun r w' => ∃ v', r = .returned v' ∧ w'.ownsRow B 5 1 v' N (pre ++ .int .u8 (n : Int) :: xc) ∧ Below B w w' := by
  have e1 : (N : Int) - (a : Int) - 1 = (n : Int) := by omega
  have hlt : (a : Int) < (N : Int) := by omega
  have hltn : a < N := by omega
  have hfz := hown.frozenAt a
  have hcl : w.cell? ⟨g, a, none⟩ = some x0 := by
    rw [hown.cellAt a (by omega)]
    exact get_mid pre xc x0 a hpre
  have HS := Lib.hid (hown.stored a (.int .u8 (n : Int))).1
  have HB := Lib.hid (below_set (Below.refl B w) hown a (.int .u8 (n : Int)))
  have HE := Lib.hid (set_mid pre xc x0 (.int .u8 (n : Int)) a hpre)
  clear hown hN
  go_enter Try.func20, Try.ntmps20
  go_wp2
  go_ret
  refine ⟨_, rfl, ?_, HB.out⟩
  have := HS.out
  rw [HE.out] at this
  exact this
end Go.Proofs.Qxb6604565a.Ber
