/-
  Rows of bytes: what is read, what is owned; zzEq, zzClone, zzCat, zzBytes.
-/
import Derived.Test.Qxb6604565aRows
import Derived.WalkKit
import Derived.ProofKit
import Derived.OwnWalk
import Derived.Below
import Derived.WalkSpells
import Derived.WalkSmall
import Derived.ArgAppend
import Derived.Deep.OwnRows
import Derived.Laws.CopyOwn
import Derived.Outline
import Derived.Deep.DeepMust
import Derived.Deep.WholeRow
import Derived.Deep.AppendLies
import Derived.Laws.OwnMore
import Derived.BigQuiet
import Derived.Deep.QuietTactic
import Derived.Lib.SliceRun
import Derived.Lib.Hide
import Derived.Lib.AppendZeros
import Derived.OpenShut
namespace Go.Proofs.Qxb6604565a.Ber
open Go.ChangeShapes Go.WideShapes Go.ChangeAt Go.RowKit
set_option linter.unusedVariables false

theorem info5 : (Try.prog.info? 5).map (fun i => (i.zero, i.size, i.bytes)) = some (some (.int .u8 0), 1, 1) := by kernel_rfl
theorem size5 : (Try.prog.info? 5).map (·.size) = some 1 := by kernel_rfl
theorem run_size5 (w : World) : (sizeOf 5).run Try.prog w = .ok 1 w := by kernel_rfl

/-- numbers as cells -/
def cells (zs : List Int) : List Value := zs.map (Value.int .u8)
theorem cells_length (zs : List Int) : (cells zs).length = zs.length := by simp [cells]
theorem cells_append (a b : List Int) : cells (a ++ b) = cells a ++ cells b := by simp [cells]
theorem cells_one (zs : List Int) : ∀ v ∈ cells zs, v.oneCell' = true := by
  intro v hv
  simp only [cells, List.mem_map] at hv
  obtain ⟨z, _, rfl⟩ := hv
  rfl
def IsB (zs : List Int) : Prop := ∀ z ∈ zs, 0 ≤ z ∧ z ≤ 255
theorem IsB.app {a b : List Int} (h : IsB a) (k : IsB b) : IsB (a ++ b) := by
  intro z hz
  rcases List.mem_append.1 hz with h1 | h1
  · exact h z h1
  · exact k z h1
theorem IsB.one (c : Int) (h1 : 0 ≤ c) (h2 : c ≤ 255) : IsB [c] := fun z hz => by simp at hz; subst hz; exact ⟨h1, h2⟩

theorem owns_down {w : World} {B n : Nat} {v : Value} {xs : List Value} (h : w.ownsRow B 5 1 v n xs) : w.ownsRow 0 5 1 v n xs := by
  obtain ⟨hl, h0 | ⟨g, cap, cur, rfl, _, r⟩⟩ := h
  · exact ⟨hl, .inl h0⟩
  · exact ⟨hl, .inr ⟨g, cap, cur, rfl, Nat.zero_le _, r⟩⟩
theorem owns_up {w : World} {B n : Nat} {v : Value} {xs : List Value} (h : w.ownsRow 0 5 1 v n xs) (hb : ∀ k, v.ownBlock = some k → B ≤ k) : w.ownsRow B 5 1 v n xs := by
  obtain ⟨hl, h0 | ⟨g, cap, cur, rfl, _, r⟩⟩ := h
  · exact ⟨hl, .inl h0⟩
  · exact ⟨hl, .inr ⟨g, cap, cur, rfl, hb g rfl, r⟩⟩
theorem owns_eq {W : World} {B n n' : Nat} {v : Value} {xs xs' : List Value} (h : W.ownsRow B 5 1 v n xs) (hn : n = n') (hx : xs = xs') : W.ownsRow B 5 1 v n' xs' := by
  subst hn hx; exact h
theorem lt_heap {W : World} {g : Nat} {o : Obj} (h : W.heap[g]? = some o) : g < W.heap.size := by
  rcases Nat.lt_or_ge g W.heap.size with h1 | h1
  · exact h1
  · rw [Array.getElem?_eq_none h1] at h; cases h
theorem owns_below {w w' : World} {base n : Nat} {v : Value} {xs : List Value} (h : w.ownsRow base 5 1 v n xs) (hb : Below w.heap.size w w') : w'.ownsRow base 5 1 v n xs := by
  obtain ⟨hl, h0 | ⟨g, cap, cur, hv, hbg, hg, r⟩⟩ := h
  · exact ⟨hl, .inl h0⟩
  · exact ⟨hl, .inr ⟨g, cap, cur, hv, hbg, by rw [hb.block g (lt_heap hg)]; exact hg, r⟩⟩

/-- what is read of a row: its value's shape, its cells -/
theorem owns_read {w : World} {base n : Nat} {v : Value} {zs : List Int} (h : w.ownsRow base 5 1 v n (cells zs)) : zs.length = n ∧ ∃ a cap, v = .slice a n cap ∧ n ≤ cap ∧ cap ≤ maxLen ∧ ∀ i, i < n → ∃ g, a = some ⟨g, 0, none⟩ ∧ w.cell? ⟨g, i, none⟩ = some (.int .u8 (zs.getD i 0)) := by
  obtain ⟨hl, h⟩ := h
  rw [cells_length, Nat.mul_one] at hl
  refine ⟨hl, ?_⟩
  rcases h with ⟨rfl, rfl⟩ | ⟨g, cap, cur, rfl, hb, hg, h1, h2, hs, ht⟩
  · exact ⟨none, 0, rfl, Nat.le_refl _, Nat.zero_le _, fun i hi => absurd hi (Nat.not_lt_zero _)⟩
  · refine ⟨_, cap, rfl, h1, h2, fun i hi => ⟨g, rfl, ?_⟩⟩
    have e : cur[i]? = some (.int .u8 (zs.getD i 0)) := by
      rw [Nat.mul_one] at ht
      have h3 : (cur.toList.take n)[i]? = (cells zs)[i]? := by rw [ht]
      rw [List.getElem?_take_of_lt hi] at h3
      have hi' : i < zs.length := by omega
      simp [cells, List.getElem?_eq_getElem hi'] at h3
      simp [List.getD, List.getElem?_eq_getElem hi', h3]
    simp [World.cell?, hg, e]

theorem one_cells (W : World) (x : Value) (t : TypeId) : ∀ j y, ([x] : List Value)[j]? = some y → (W.alloc (.cells #[x] t)).cell? ((⟨W.heap.size, 0, none⟩ : Addr).add j) = some y := by
  intro j y h
  match j, h with
  | 0, h => simp at h; subst h; simp [Addr.add]

set_option maxHeartbeats 1000000 in
/-- zzEq over two rows of the same bytes -/
theorem eq_any (v v' : Value) (n : Nat) (zs : List Int) (w : World) (hl : n ≤ 1099511627776) (hz : IsB zs) (ho : w.ownsRow 0 5 1 v n (cells zs)) (ho' : w.ownsRow 0 5 1 v' n (cells zs)) :
    Calls Try.prog 11 #[v, v'] w fun e w' => e = .returned (.bool true) ∧ ∃ k, w' = w.drewN k := by
  obtain ⟨hzl, a, c, rfl, _, _, hs⟩ := owns_read ho
  obtain ⟨_, a', c', rfl, _, _, hs'⟩ := owns_read ho'
  clear ho ho'
  have HZ := Lib.hid hzl
  clear hzl
  go_enter Try.func11, Try.ntmps11
  go_wp2
  go_loopw [5] (fun i wr => ∃ k q : Nat, k ≤ n ∧ i = .int .i64 k ∧ wr = w.drewN q) (fun i _ => n - (RowKit.intOf i).toNat)
  case atStart => exact ⟨0, 0, Nat.zero_le _, rfl, rfl⟩
  case round =>
    obtain ⟨k, q, hk, rfl, rfl⟩ := hrel
    by_cases hlt : k < n
    · obtain ⟨g, rfl, h1⟩ := hs k hlt
      obtain ⟨g', rfl, h4⟩ := hs' k hlt
      have ilt : (k : Int) < (n : Int) := by omega
      clear hs hs'
      go_wp2_with fail
      go_quiet (fail)
      go_wp2
      go_roundw
      case rel => exact ⟨k + 1, _, by omega, by go_num, rfl⟩
      case measure => simp [RowKit.intOf]; omega
    · go_wp2
      go_ret
      exact ⟨rfl, q, rfl⟩
end Go.Proofs.Qxb6604565a.Ber
