import Derived.Test.YbulkczwiState
import Derived.Deep.RegionHeld3
namespace Go.Proofs.Ybulkczwi
open Go.RowKit
open Go.ChangeMaps (setBlock)
set_option linter.unusedVariables false
set_option linter.unusedSimpArgs false

theorem Blk.setCell {W : World} {τ : Nat → Nat} {t g : Nat} {cs : Array Value} {e : TypeId} {fz : Nat × Nat} (h : Blk W τ t g (.cells cs e fz)) (i : Nat) (v : Value) : Blk (W.setCell ⟨g, i, none⟩ v) τ t g (.cells (cs.setIfInBounds i v) e fz) := by
  refine ⟨?_, h.tag⟩
  have hlt := lt_of_block h.at'
  show (W.heap.modify g _)[g]? = _
  rw [Array.getElem?_modify, if_pos rfl, h.at']
  rfl
theorem Blk.cell {W : World} {τ : Nat → Nat} {t g i : Nat} {cs : Array Value} {e : TypeId} {v : Value} (h : Blk W τ t g (.cells cs e (0, 0))) (hi : cs[i]? = some v) : W.cell? ⟨g, i, none⟩ = some v ∧ W.frozen? ⟨g, i, none⟩ = false :=
  ⟨by rw [cell_of_row _ _ _ _ _ _ h.at']; exact hi, frozen_of_row _ _ _ _ _ h.at'⟩

/-- the element type e of sl, its size in cells and in bytes -/
structure El (sl e : TypeId) (sz bytes : Nat) : Prop where
  sl : Yba.prog.underlying sl = some (.slice e)
  info : ∃ i z, Yba.prog.info? e = some i ∧ i.zero = some z ∧ i.size = sz ∧ i.bytes = bytes ∧ z.cells.size = sz
  pos : 0 < sz
  small : bytes ≤ 1000
theorem El.mk' {sl e : TypeId} {sz bytes : Nat} (h : Yba.prog.underlying sl = some (.slice e)) (hi : (Yba.prog.info? e).map (fun i => (i.zero.map (·.cells.size), i.size, i.bytes)) = some (some sz, sz, bytes)) (h0 : 0 < sz) (hb : bytes ≤ 1000) : El sl e sz bytes := by
  obtain ⟨i, hi, hzz⟩ := Option.map_eq_some_iff.1 hi
  simp only [Prod.mk.injEq] at hzz
  obtain ⟨z, hz, hs⟩ := Option.map_eq_some_iff.1 hzz.1
  exact ⟨h, ⟨i, z, hi, hz, hzz.2.1, hzz.2.2, hs⟩, h0, hb⟩
theorem el29 : El 29 40 9 128 := El.mk' Yba.underlying29 (by kernel_rfl) (by omega) (by omega)
theorem el28 : El 28 43 11 176 := El.mk' Yba.underlying28 (by kernel_rfl) (by omega) (by omega)
theorem el45 : El 45 49 11 160 := El.mk' Yba.underlying45 (by kernel_rfl) (by omega) (by omega)

theorem Has.app {W : World} {τ : Nat → Nat} {t : Nat} {sl e : TypeId} {sz bytes : Nat} (E : El sl e sz bytes) (ty : TypeId) {v : Value} {n : Nat} {xs : List Value} (h : Has W τ t e sz v n xs) (a : Addr) (m c : Nat) (news : List Value) (hl : news.length = m * sz) (hnews : ∀ j u, news[j]? = some u → W.cell? (a.add j) = some u) (h1 : ∀ u ∈ news, u.oneCell' = true) (hn : n + m ≤ 10000) :
    ∃ v' W', (Builtin.append_ #[sl, sl] ty #[v, .slice (some a) m c]).run Yba.prog W = .ok v' W' ∧ Has W' (mark τ W.heap.size t) t e sz v' (n + m) (xs ++ news) ∧ Stp t W τ W' (mark τ W.heap.size t) := by
  obtain ⟨i, z, hi, hz, hs, hb, hzs⟩ := E.info
  exact h.append ty E.sl hi hz hs hb hzs E.pos a m c news hl hnews h1 hn E.small

theorem Has.form {W : World} {τ : Nat → Nat} {t : Nat} {e : TypeId} {sz : Nat} {v : Value} {n : Nat} {xs : List Value} (h : Has W τ t e sz v n xs) (hn : 0 < n) : ∃ g c, v = .slice (some ⟨g, 0, none⟩) n c := by
  rcases h.own.2 with ⟨_, h0⟩ | ⟨g, cap, cur, hv, _⟩
  · omega
  · exact ⟨g, cap, hv⟩
/-- append, as an operation of a plain region -/
theorem wpList_app {ops : Array Oper} {rest : List Oper} {o : Oper} {a : Act} {W : World} {Q : Exit → Act → World → Prop} (hgd : o.guard = none) (s x : Operand) {sl e : TypeId} {sz bytes : Nat} (E : El sl e sz bytes)
    (ho : o.op = .call { callee := .builtin .append, args := #[s, x], argTypes := #[sl, sl] }) {τ : Nat → Nat} {t : Nat} {v : Value} {n : Nat} {xs : List Value} (h : Has W τ t e sz v n xs) (hs : a.eval s = v) (ad : Addr) (m c : Nat) (hx : a.eval x = .slice (some ad) m c)
    (news : List Value) (hl : news.length = m * sz) (hnews : ∀ j u, news[j]? = some u → W.cell? (ad.add j) = some u) (h1 : ∀ u ∈ news, u.oneCell' = true) (hn : n + m ≤ 10000) (hp : 0 < n + m)
    (hK : ∀ g c W', Hid (Has W' (mark τ W.heap.size t) t e sz (.slice (some ⟨g, 0, none⟩) (n + m) c) (n + m) (xs ++ news) ∧ Stp t W τ W' (mark τ W.heap.size t)) → wpList Yba.prog ops Q rest (a.put o.dst (.slice (some ⟨g, 0, none⟩) (n + m) c)) W') : wpList Yba.prog ops Q (o :: rest) a W := by
  obtain ⟨v', W', hr, h2, h3⟩ := h.app E o.type ad m c news hl hnews h1 hn
  obtain ⟨g, cap, rfl⟩ := h2.form hp
  refine wpList_plain hgd fun _ hK' => ?_
  unfold Oper.wp execOp
  simp only [ho, resolve, invoke, builtin, Sem.run_bind, Sem.run_pure, Result.andThen_ok, List.map_toArray, List.map_cons, List.map_nil, hs, hx, hr]
  exact hK' _ _ (hK g cap W' ⟨h2, h3⟩)
/-- append, as a step of a region that draws its order -/
theorem step_app {ops : Array Oper} {o : Oper} {a : Act} {W : World} {K : Act → World → Prop} {Q : Exit → Act → World → Prop} {Z : Prop} (hgd : o.guard = none) (s x : Operand) {sl e : TypeId} {sz bytes : Nat} (E : El sl e sz bytes)
    (ho : o.op = .call { callee := .builtin .append, args := #[s, x], argTypes := #[sl, sl] }) {τ : Nat → Nat} {t : Nat} {v : Value} {n : Nat} {xs : List Value} (h : Has W τ t e sz v n xs) (hs : a.eval s = v) (ad : Addr) (m c : Nat) (hx : a.eval x = .slice (some ad) m c)
    (news : List Value) (hl : news.length = m * sz) (hnews : ∀ j u, news[j]? = some u → W.cell? (ad.add j) = some u) (h1 : ∀ u ∈ news, u.oneCell' = true) (hn : n + m ≤ 10000) (hp : 0 < n + m)
    (hK : ∀ g c W', Hid (Has W' (mark τ W.heap.size t) t e sz (.slice (some ⟨g, 0, none⟩) (n + m) c) (n + m) (xs ++ news) ∧ Stp t W τ W' (mark τ W.heap.size t)) → K (a.put o.dst (.slice (some ⟨g, 0, none⟩) (n + m) c)) W') :
    if Region.wanted o (yielded ops a.tmps) = true then Oper.wp Yba.prog o a W K Q else Z := by
  have hw : Region.wanted o (yielded ops a.tmps) = true := by simp [Region.wanted, hgd]
  rw [if_pos hw]
  obtain ⟨v', W', hr, h2, h3⟩ := h.app E o.type ad m c news hl hnews h1 hn
  obtain ⟨g, cap, rfl⟩ := h2.form hp
  unfold Oper.wp execOp
  simp only [ho, resolve, invoke, builtin, Sem.run_bind, Sem.run_pure, Result.andThen_ok, List.map_toArray, List.map_cons, List.map_nil, hs, hx, hr]
  exact hK g cap W' ⟨h2, h3⟩
theorem dCells_one (s : Int) : ∀ u ∈ dCells s, u.oneCell' = true := by
  intro u hu
  exact descs_oneCell [s] u (by rw [descs_one]; exact hu)
/-- the cells of a block just made -/
theorem news_of {W : World} {g : Nat} {xs : List Value} {t : TypeId} (h : W.heap[g]? = some (.cells xs.toArray t (0, 0))) : ∀ j u, xs[j]? = some u → W.cell? ((⟨g, 0, none⟩ : Addr).add j) = some u := fun j u hj => by
  rw [Addr.add_lit, Nat.zero_add, cell_of_row _ _ _ _ _ _ h]
  simpa using hj
end Go.Proofs.Ybulkczwi
