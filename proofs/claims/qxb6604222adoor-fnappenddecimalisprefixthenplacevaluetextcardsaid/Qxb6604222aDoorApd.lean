/-
  Appending to a slice that is owned, or that is full (its capacity is its length): where it is full, the old row stays as it was.
-/
import Derived.ArgAppend
import Derived.Test.Qxb6604222aDoorEq
namespace Go.Proofs.Qxb6604222aDoor.Full
open Go.RowKit Go.Sort Go.Lib Bufs
set_option linter.unusedVariables false

def Apd (w : World) (B : Nat) (v : Value) (n : Nat) (xs : List Value) : Prop :=
  w.ownsRow B 5 1 v n xs ∨ (w.ownsRow 0 5 1 v n xs ∧ ∃ g, v = .slice (some ⟨g, 0, none⟩) n n)

/-- what an append leaves of the old world -/
def Grew (w w' : World) (B : Nat) (v : Value) (n : Nat) (xs : List Value) : Prop := w.grownBy w' none ∨ (w.grownBy w' v.ownBlock ∧ w.ownsRow B 5 1 v n xs)

theorem Apd.alloc {w : World} {B : Nat} {v : Value} {n : Nat} {xs : List Value} (h : Apd w B v n xs) (o : Obj) : Apd (w.alloc o) B v n xs := by
  rcases h with h | ⟨h, g⟩
  · exact .inl (h.alloc o)
  · exact .inr ⟨h.alloc o, g⟩

theorem owns_up {w : World} {B n : Nat} {v : Value} {xs : List Value} (h : w.ownsRow 0 5 1 v n xs) (hb : ∀ k, v.ownBlock = some k → B ≤ k) : w.ownsRow B 5 1 v n xs := by
  obtain ⟨hl, h0 | ⟨g, cap, cur, rfl, _, r⟩⟩ := h
  · exact ⟨hl, .inl h0⟩
  · exact ⟨hl, .inr ⟨g, cap, cur, rfl, hb g rfl, r⟩⟩

theorem owns_down {w : World} {B n : Nat} {v : Value} {xs : List Value} (h : w.ownsRow B 5 1 v n xs) : w.ownsRow 0 5 1 v n xs := by
  obtain ⟨hl, h0 | ⟨g, cap, cur, rfl, _, r⟩⟩ := h
  · exact ⟨hl, .inl h0⟩
  · exact ⟨hl, .inr ⟨g, cap, cur, rfl, Nat.zero_le _, r⟩⟩

theorem run_apd (w : World) (ty : TypeId) (B : Nat) (v : Value) (n : Nat) (xs : List Value) (hown : Apd w B v n xs)
    (ad : Addr) (m c : Nat) (news : List Value) (hl : news.length = m) (hnews : ∀ j u, news[j]? = some u → w.cell? (ad.add j) = some u) (h1 : ∀ u ∈ news, u.oneCell' = true)
    (hm : 0 < m) (hsmall : n + m ≤ 2000000000) (hbase : B ≤ w.heap.size) :
    ∃ v' w', (Builtin.append_ #[22, 22] ty #[v, .slice (some ad) m c]).run Tryd.prog w = .ok v' w' ∧ w'.ownsRow B 5 1 v' (n + m) (xs ++ news) ∧ Grew w w' B v n xs := by
  obtain ⟨i0, hi, hz0, hz1, hz2⟩ := info_parts Ints.dec_info5
  rcases hown with h | ⟨h, g, rfl⟩
  · obtain ⟨v', w', hr, h2, h3, _⟩ := run_append_own (P := Tryd.prog) w B 22 ty 5 i0 (.int .u8 0) 1 1 Tryd.underlying22 hi hz0 hz1 hz2 rfl (by decide) v n xs h ad m c news (by omega) hnews h1 (by unfold maxLen; omega) (by omega) hbase
    exact ⟨v', w', hr, h2, .inr ⟨h3, h⟩⟩
  · obtain ⟨v', w', hr, h2, h3⟩ := run_append_arg_grows (P := Tryd.prog) w 22 ty 5 i0 (.int .u8 0) 1 1 Tryd.underlying22 hi hz0 hz1 hz2 rfl (by decide) ⟨g, 0, none⟩ n n xs h.1 (h.cells (g := g) rfl) ad m c news (by omega) hnews (by omega) (by unfold maxLen; omega) (by omega)
    exact ⟨v', w', hr, owns_up (owns_down h2) (fun k hk => Nat.le_trans hbase (h2.lt k hk).1), .inl h3⟩

theorem run_apd_string (w : World) (ty : TypeId) (B : Nat) (v : Value) (n : Nat) (xs : List Value) (hown : Apd w B v n xs) (s : ByteArray)
    (hm : 0 < s.size ∨ w.ownsRow B 5 1 v n xs) (hsmall : n + s.size ≤ 2000000000) (hbase : B ≤ w.heap.size) :
    ∃ v' w', (Builtin.append_ #[22, 9] ty #[v, .string s]).run Tryd.prog w = .ok v' w' ∧ w'.ownsRow B 5 1 v' (n + s.size) (xs ++ strCells s) ∧ Grew w w' B v n xs := by
  obtain ⟨i0, hi, hz0, hz1, hz2⟩ := info_parts Ints.dec_info5
  have own : ∀ h : w.ownsRow B 5 1 v n xs, ∃ v' w', (Builtin.append_ #[22, 9] ty #[v, .string s]).run Tryd.prog w = .ok v' w' ∧ w'.ownsRow B 5 1 v' (n + s.size) (xs ++ strCells s) ∧ Grew w w' B v n xs := by
    intro h
    obtain ⟨v', w', hr, h2, h3, _⟩ := run_append_own_string (P := Tryd.prog) w B 22 9 ty 5 i0 Tryd.underlying22 Tryd.underlying9 hi hz0 hz1 hz2 v n xs h s (by unfold maxLen; omega) (by omega) hbase
    exact ⟨v', w', hr, h2, .inr ⟨h3, h⟩⟩
  rcases hm with hm | hm
  · rcases hown with h | ⟨h, g, rfl⟩
    · exact own h
    · obtain ⟨v', w', hr, h2, h3, _⟩ := run_append_own_string (P := Tryd.prog) w 0 22 9 ty 5 i0 Tryd.underlying22 Tryd.underlying9 hi hz0 hz1 hz2 (.slice (some ⟨g, 0, none⟩) n n) n xs h s (by unfold maxLen; omega) (by omega) (Nat.zero_le _)
      have hg := run_append_grow_string (P := Tryd.prog) w 22 9 ty 5 i0 (.int .u8 0) Tryd.underlying22 Tryd.underlying9 hi hz0 ⟨g, 0, none⟩ n n xs (by rw [hz1]; exact h.1) (h.cells (g := g) rfl) s (by omega) (by omega) (by rw [hz2]; exact growslice_fits (by omega) (by omega))
      rw [hr] at hg
      obtain ⟨rfl, rfl⟩ := Result.ok.inj hg
      refine ⟨_, _, hr, owns_up h2 (fun k hk => ?_), .inl ⟨rfl, rfl, rfl, by simp, fun k hk _ => Go.heap_alloc_old w.drew _ hk⟩⟩
      have e : w.heap.size = k := by simpa [Value.ownBlock] using hk
      omega
  · exact own hm

theorem wpList_apd (w : World) {ops : Array Oper} {rest : List Oper} {o : Oper} {a : Act} {Q : Exit → Act → World → Prop} (hgd : o.guard = none) (s x : Operand)
    (ho : o.op = .call { callee := .builtin .append, args := #[s, x], argTypes := #[22, 22] }) (B : Nat) (v : Value) (n : Nat) (xs : List Value) (hs : a.eval s = v) (hown : Apd w B v n xs)
    (ad : Addr) (m c : Nat) (news : List Value) (hx : a.eval x = .slice (some ad) m c) (hl : news.length = m) (hnews : ∀ j u, news[j]? = some u → w.cell? (ad.add j) = some u) (h1 : ∀ u ∈ news, u.oneCell' = true)
    (hm : 0 < m) (hsmall : n + m ≤ 2000000000) (hbase : B ≤ w.heap.size)
    (h : ∀ v' w', w'.ownsRow B 5 1 v' (n + m) (xs ++ news) → Grew w w' B v n xs → wpList Tryd.prog ops Q rest (a.put o.dst v') w') : wpList Tryd.prog ops Q (o :: rest) a w := by
  obtain ⟨v', w', hr, h2, h3⟩ := run_apd w o.type B v n xs hown ad m c news hl hnews h1 hm hsmall hbase
  exact Lib.wpList_append_run _ hgd s x 22 22 ho _ _ hs hx v' w' hr (h v' w' h2 h3)

theorem wpList_apd_string (w : World) {ops : Array Oper} {rest : List Oper} {o : Oper} {a : Act} {Q : Exit → Act → World → Prop} (hgd : o.guard = none) (s x : Operand)
    (ho : o.op = .call { callee := .builtin .append, args := #[s, x], argTypes := #[22, 9] }) (B : Nat) (v : Value) (n : Nat) (xs : List Value) (hs : a.eval s = v) (hown : Apd w B v n xs)
    (str : ByteArray) (hx : a.eval x = .string str) (hm : 0 < str.size ∨ w.ownsRow B 5 1 v n xs) (hsmall : n + str.size ≤ 2000000000) (hbase : B ≤ w.heap.size)
    (h : ∀ v' w', w'.ownsRow B 5 1 v' (n + str.size) (xs ++ strCells str) → Grew w w' B v n xs → wpList Tryd.prog ops Q rest (a.put o.dst v') w') : wpList Tryd.prog ops Q (o :: rest) a w := by
  obtain ⟨v', w', hr, h2, h3⟩ := run_apd_string w o.type B v n xs hown str hm hsmall hbase
  exact Lib.wpList_append_run _ hgd s x 22 9 ho _ _ hs hx v' w' hr (h v' w' h2 h3)

/-- the walk's state: what is written so far, and the digits' array -/
structure St (B : Nat) (w W : World) (g u : Nat) (v : Value) (n : Nat) (xs : List Value) : Prop where
  own : Apd W B v n xs
  buf : W.heap[g]? = some (.cells (bufOf u).toArray 36 (0, 0))
  bel : Below B w W
  hB : B ≤ W.heap.size

theorem St.next {B : Nat} {w W W1 W' : World} {g u : Nat} {v v' : Value} {n n' : Nat} {xs xs' : List Value} (S : St B w W g u v n xs) (hb : Below W.heap.size W W1) (hown : W'.ownsRow B 5 1 v' n' xs') (hgrow : Grew W1 W' B v n xs) : St B w W' g u v' n' xs' := by
  have hg := Bufs.lt_of_heap S.buf
  have h1 : Below B w W1 := S.bel.trans (hb.mono S.hB)
  have hbuf : W1.heap[g]? = some (.cells (bufOf u).toArray 36 (0, 0)) := by rw [hb.block g hg]; exact S.buf
  have hg1 := Bufs.lt_of_heap hbuf
  rcases hgrow with hgrow | ⟨hgrow, ho⟩
  · refine ⟨.inl hown, ?_, h1.grown hgrow (Nat.le_trans S.hB hb.size) (fun k hk => by cases hk), Nat.le_trans S.hB (Nat.le_trans hb.size hgrow.size)⟩
    rw [hgrow.block g hg1 (by simp)]; exact hbuf
  · refine ⟨.inl hown, ?_, h1.grown hgrow (Nat.le_trans S.hB hb.size) (fun k hk => (ho.lt k hk).1), Nat.le_trans S.hB (Nat.le_trans hb.size hgrow.size)⟩
    rw [hgrow.block g hg1 (own_ne ho hbuf)]; exact hbuf

theorem St.drewN {B : Nat} {w W : World} {g u : Nat} {v : Value} {n : Nat} {xs : List Value} (S : St B w W g u v n xs) (k : Nat) : St B w (W.drewN k) g u v n xs := by
  refine ⟨?_, S.buf, below_drewN S.bel k, S.hB⟩
  rcases S.own with h | h
  · exact .inl h
  · exact .inr h

theorem St.drop_cells {B : Nat} {w W : World} {g u : Nat} {v : Value} {n : Nat} {xs : List Value} (S : St B w W g u v n xs) (h20 : nDigits u ≤ 20) (k : Nat) : ∀ j x, ((digs u).drop k)[j]? = some x → W.cell? ((⟨g, k, none⟩ : Addr).add j) = some x := by
  intro j x h
  rw [List.getElem?_drop] at h
  have hj := digs_get u _ x h
  rw [← bufOf_get u _ h20 hj] at h
  rw [Go.WideShapes.add_plain]
  simp [World.cell?, S.buf, h]

theorem St.digs_cells {B : Nat} {w W : World} {g u : Nat} {v : Value} {n : Nat} {xs : List Value} (S : St B w W g u v n xs) (h20 : nDigits u ≤ 20) : ∀ j x, (digs u)[j]? = some x → W.cell? ((⟨g, 0, none⟩ : Addr).add j) = some x :=
  S.drop_cells h20 0

theorem St.take_cells {B : Nat} {w W : World} {g u : Nat} {v : Value} {n : Nat} {xs : List Value} (S : St B w W g u v n xs) (h20 : nDigits u ≤ 20) (k : Nat) : ∀ j x, ((digs u).take k)[j]? = some x → W.cell? ((⟨g, 0, none⟩ : Addr).add j) = some x := by
  intro j x h
  refine S.digs_cells h20 j x ?_
  rw [List.getElem?_take] at h
  split at h
  · exact h
  · cases h

theorem Apd.kept {w1 W : World} {B n g : Nat} {v : Value} {xs : List Value} {o : Obj} (h : Apd w1 B v n xs) (hg : w1.heap.size = g) (hgr : (w1.alloc o).grownBy W (some g)) : Apd W B v n xs := by
  subst hg
  rcases h with h | ⟨h, g'⟩
  · exact .inl ((h.alloc _).kept hgr (.inr (fun hb => by have := (h.lt _ hb).2; omega)))
  · exact .inr ⟨(h.alloc _).kept hgr (.inr (fun hb => by have := (h.lt _ hb).2; omega)), g'⟩

theorem St.start {B : Nat} {w w1 W : World} {u g n : Nat} {v : Value} {xs : List Value} (hb : Below B w w1) (hB : B ≤ w1.heap.size) (hown : Apd w1 B v n xs) (hg : w1.heap.size = g)
    (hgr : (w1.alloc (.cells (Ints.zeros 20).toArray 36)).grownBy W (some g)) (hbuf : W.heap[g]? = some (.cells (splice (Ints.zeros 20) 0 (digs u)).toArray 36 (0, 0))) : St B w W g u v n xs := by
  refine ⟨hown.kept hg hgr, hbuf, ?_, ?_⟩
  · subst hg
    exact (hb.alloc hB _).grown hgr (by simp; omega) (fun k hk => by have e : w1.heap.size = k := by simpa using hk
                                                                     omega)
  · have := hgr.size
    simp at this
    omega
end Go.Proofs.Qxb6604222aDoor.Full
