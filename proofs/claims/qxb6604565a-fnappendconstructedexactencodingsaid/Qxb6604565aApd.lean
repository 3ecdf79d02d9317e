/-
  Appending to a slice that is owned, or that is full: where it is full, the old row stays as it was. The walk of appendIdentifier.
-/
import Derived.Deep.RegionHeld3
import Derived.Deep.AppendLies
import Derived.Test.Qxb6604565aEnc
namespace Go.Proofs.Qxb6604565a.Ber
open Go.ChangeShapes Go.WideShapes Go.ChangeAt Go.RowKit
set_option linter.unusedVariables false

def Apd (w : World) (B : Nat) (v : Value) (n : Nat) (xs : List Value) : Prop :=
  w.ownsRow B 5 1 v n xs ∨ (w.ownsRow 0 5 1 v n xs ∧ ∃ g, v = .slice (some ⟨g, 0, none⟩) n n)

/-- what an append leaves of the old world -/
def Grew (w w' : World) (B : Nat) (v : Value) (n : Nat) (xs : List Value) : Prop := w.grownBy w' none ∨ (w.grownBy w' v.ownBlock ∧ w.ownsRow B 5 1 v n xs)

theorem Apd.alloc {w : World} {B : Nat} {v : Value} {n : Nat} {xs : List Value} (h : Apd w B v n xs) (o : Obj) : Apd (w.alloc o) B v n xs := by
  rcases h with h | ⟨h, g⟩
  · exact .inl (h.alloc o)
  · exact .inr ⟨h.alloc o, g⟩

theorem run_apd (w : World) (ty : TypeId) (B : Nat) (v : Value) (n : Nat) (xs : List Value) (hown : Apd w B v n xs)
    (ad : Addr) (m c : Nat) (news : List Value) (hl : news.length = m) (hnews : ∀ j u, news[j]? = some u → w.cell? (ad.add j) = some u) (h1 : ∀ u ∈ news, u.oneCell' = true)
    (hm : 0 < m) (hsmall : n + m ≤ 2000000000) (hbase : B ≤ w.heap.size) :
    ∃ v' w', (Builtin.append_ #[23, 23] ty #[v, .slice (some ad) m c]).run Try.prog w = .ok v' w' ∧ w'.ownsRow B 5 1 v' (n + m) (xs ++ news) ∧ Grew w w' B v n xs := by
  obtain ⟨i0, hi, hz0, hz1, hz2⟩ := info_parts info5
  rcases hown with h | ⟨h, g, rfl⟩
  · obtain ⟨v', w', hr, h2, h3, _⟩ := run_append_own (P := Try.prog) w B 23 ty 5 i0 (.int .u8 0) 1 1 Try.underlying23 hi hz0 hz1 hz2 rfl (by decide) v n xs h ad m c news (by omega) hnews h1 (by unfold maxLen; omega) (by omega) hbase
    exact ⟨v', w', hr, h2, .inr ⟨h3, h⟩⟩
  · obtain ⟨v', w', hr, h2, h3⟩ := run_append_arg_grows (P := Try.prog) w 23 ty 5 i0 (.int .u8 0) 1 1 Try.underlying23 hi hz0 hz1 hz2 rfl (by decide) ⟨g, 0, none⟩ n n xs h.1 (h.cells (g := g) rfl) ad m c news (by omega) hnews (by omega) (by unfold maxLen; omega) (by omega)
    exact ⟨v', w', hr, owns_up (owns_down h2) (fun k hk => Nat.le_trans hbase (h2.lt k hk).1), .inl h3⟩

theorem wpList_apd (w : World) {ops : Array Oper} {rest : List Oper} {o : Oper} {a : Act} {Q : Exit → Act → World → Prop} (hgd : o.guard = none) (s x : Operand)
    (ho : o.op = .call { callee := .builtin .append, args := #[s, x], argTypes := #[23, 23] }) (B : Nat) (v : Value) (n : Nat) (xs : List Value) (hs : a.eval s = v) (hown : Apd w B v n xs)
    (ad : Addr) (m c : Nat) (news : List Value) (hx : a.eval x = .slice (some ad) m c) (hl : news.length = m) (hnews : ∀ j u, news[j]? = some u → w.cell? (ad.add j) = some u) (h1 : ∀ u ∈ news, u.oneCell' = true)
    (hm : 0 < m) (hsmall : n + m ≤ 2000000000) (hbase : B ≤ w.heap.size)
    (h : ∀ v' w', w'.ownsRow B 5 1 v' (n + m) (xs ++ news) → Grew w w' B v n xs → wpList Try.prog ops Q rest (a.put o.dst v') w') : wpList Try.prog ops Q (o :: rest) a w := by
  obtain ⟨v', w', hr, h2, h3⟩ := run_apd w o.type B v n xs hown ad m c news hl hnews h1 hm hsmall hbase
  exact Lib.wpList_append_run _ hgd s x 23 23 ho _ _ hs hx v' w' hr (h v' w' h2 h3)


theorem Grew.below {w w0 w' : World} {B : Nat} {v : Value} {n : Nat} {xs : List Value} (h : Grew w w' B v n xs) (hb : Below B w0 w) (hB : B ≤ w.heap.size) : Below B w0 w' := by
  rcases h with h | ⟨h, ho⟩
  · exact hb.grown h hB (fun k hk => by cases hk)
  · exact hb.grown h hB (fun k hk => (ho.lt k hk).1)
theorem Grew.size {w w' : World} {B : Nat} {v : Value} {n : Nat} {xs : List Value} (h : Grew w w' B v n xs) : w.heap.size ≤ w'.heap.size := by
  rcases h with h | ⟨h, ho⟩
  · exact h.size
  · exact h.size

theorem or32_nat : ∀ a : Nat, a < 4 → (a * 64) ||| 32 = a * 64 + 32 := by decide
theorem or31_nat : ∀ a : Nat, a < 4 → ∀ k : Nat, k < 32 → (a * 64 + 32) ||| k = a * 64 + 32 + k := by decide
theorem or32 (c : Int) (h1 : 0 ≤ c) : bits .or .u8 (c * 64 % 256) 32 = c % 4 * 64 + 32 := by
  rw [u8_or (c * 64 % 256) 32 (by omega) (by omega) (by omega) (by omega)]
  have e := or32_nat (c % 4).toNat (by omega)
  have e1 : (c * 64 % 256).toNat = (c % 4).toNat * 64 := by omega
  have e2 : (32 : Int).toNat = 32 := rfl
  rw [e1, e2, e]
  omega
theorem or31 (c k : Int) (h1 : 0 ≤ k) (h2 : k < 32) : bits .or .u8 (c % 4 * 64 + 32) k = c % 4 * 64 + 32 + k := by
  rw [u8_or (c % 4 * 64 + 32) k (by omega) (by omega) (by omega) (by omega)]
  have e := or31_nat (c % 4).toNat (by omega) k.toNat (by omega)
  have e1 : (c % 4 * 64 + 32).toNat = (c % 4).toNat * 64 + 32 := by omega
  rw [e1, e]
  omega

set_option maxRecDepth 100000 in
set_option maxHeartbeats 1000000 in
theorem identifier_small (c num : Int) (hc1 : 0 ≤ c) (hc2 : c ≤ 255) (hn : 0 ≤ num) (hs : num < 31) (K B n : Nat) (sv : Value) (xs : List Value) (w : World) (hown : Apd w B sv n xs) (hBw : B ≤ w.heap.size) (hlim : n ≤ 4000000) :
    Calls Try.prog 19 #[sv, .agg #[.int .u8 c, .int .u32 num], .bool true] w fun r w' => ∃ v', r = .returned v' ∧ w'.ownsRow B 5 1 v' (n + (ident c num K).length) (xs ++ cells (ident c num K)) ∧ Below B w w' := by
  have o32 := or32 c hc1
  have onum := or31 c num hn (by omega)
  have HI : Hid (ident c num K = [c % 4 * 64 + 32 + num]) := by show _ = _; unfold ident; rw [if_pos hs]
  have HOA := Lib.hid ((hown.alloc (.cells #[.int .u8 c, .int .u32 num] 28)).alloc (.cells #[.int .u8 (c % 4 * 64 + 32 + num)] 5))
  have hc1' := one_cells (w.alloc (.cells #[.int .u8 c, .int .u32 num] 28)) (.int .u8 (c % 4 * 64 + 32 + num)) 5
  rw [show (w.alloc (.cells #[.int .u8 c, .int .u32 num] 28)).heap.size = w.heap.size + 1 by simp] at hc1'
  have HC1 := Lib.hid hc1'
  have HBB : Hid (Below B w ((w.alloc (.cells #[.int .u8 c, .int .u32 num] 28)).alloc (.cells #[.int .u8 (c % 4 * 64 + 32 + num)] 5))) := ((Below.refl _ _).alloc hBw _).alloc (by simp; omega) _
  have HB2 : Hid (B ≤ ((w.alloc (.cells #[.int .u8 c, .int .u32 num] 28)).alloc (.cells #[.int .u8 (c % 4 * 64 + 32 + num)] 5)).heap.size) := by show _ ≤ _; simp; omega
  clear hown hc1'
  go_enter Try.func19, Try.ntmps19
  go_wp2_with (at_builtin; go_must (refine wpList_apd _ rfl (.tmp 17) (.tmp 23) rfl B _ _ _ rfl HOA.out ⟨w.heap.size + 1, 0, none⟩ 1 1 [.int .u8 (c % 4 * 64 + 32 + num)] rfl rfl HC1.out (by intro x hx; simp at hx; subst hx; rfl) (by omega) (by omega) HB2.out ?_; intro v0 w0 hown0 hgrow0; refine Hid.out ?_))
  have HO0 := Lib.hid hown0
  have HBn := Lib.hid (hgrow0.below HBB.out HB2.out)
  clear hown0 hgrow0
  refine Lib.hid ?_
  go_wp2
  go_ret
  refine ⟨_, rfl, ?_, HBn.out⟩
  rw [HI.out]
  exact HO0.out


theorem step_apd (w : World) {ops : Array Oper} {o : Oper} {a : Act} {K : Act → World → Prop} {Q : Exit → Act → World → Prop} {E : Prop} (hgd : o.guard = none) (s x : Operand)
    (ho : o.op = .call { callee := .builtin .append, args := #[s, x], argTypes := #[23, 23] }) (B : Nat) (v : Value) (n : Nat) (xs : List Value) (hs : a.eval s = v) (hown : Apd w B v n xs)
    (ad : Addr) (m c : Nat) (news : List Value) (hx : a.eval x = .slice (some ad) m c) (hl : news.length = m) (hnews : ∀ j u, news[j]? = some u → w.cell? (ad.add j) = some u) (h1 : ∀ u ∈ news, u.oneCell' = true)
    (hm : 0 < m) (hsmall : n + m ≤ 2000000000) (hbase : B ≤ w.heap.size)
    (h : ∀ v' w', w'.ownsRow B 5 1 v' (n + m) (xs ++ news) → Grew w w' B v n xs → K (a.put o.dst v') w') :
    if Region.wanted o (yielded ops a.tmps) = true then Oper.wp Try.prog o a w K Q else E := by
  have hw : Region.wanted o (yielded ops a.tmps) = true := by simp [Region.wanted, hgd]
  rw [if_pos hw]
  obtain ⟨v', w', hr, h2, h3⟩ := run_apd w o.type B v n xs hown ad m c news hl hnews h1 hm hsmall hbase
  exact Lib.wp_append_run _ s x 23 23 ho _ _ hs hx v' w' hr (h v' w' h2 h3)

theorem Apd.lt {w : World} {B : Nat} {v : Value} {n : Nat} {xs : List Value} (h : Apd w B v n xs) (k : Nat) (hk : v.ownBlock = some k) : k < w.heap.size := by
  rcases h with h | ⟨h, _⟩
  · exact (h.lt k hk).2
  · exact (h.lt k hk).2
theorem Apd.drew {w : World} {B : Nat} {v : Value} {n : Nat} {xs : List Value} (h : Apd w B v n xs) : Apd w.drew B v n xs := h
/-- a block that came behind the row is as it was -/
theorem Grew.cell {w0 w w' : World} {B : Nat} {v : Value} {n : Nat} {xs : List Value} (h : Grew w w' B v n xs) (ho : Apd w0 B v n xs) (b off : Nat) (hb : w0.heap.size ≤ b) (hb2 : b < w.heap.size) : w'.cell? ⟨b, off, none⟩ = w.cell? ⟨b, off, none⟩ := by
  rcases h with h | ⟨h, _⟩
  · exact h.cell_far _ hb2 (by simp)
  · refine h.cell_far _ hb2 ?_
    intro e
    have := ho.lt b e.symm
    omega
end Go.Proofs.Qxb6604565a.Ber
