import Derived.Test.YbulkczwiMaps
namespace Go.Proofs.Ybulkczwi
open Go.RowKit
open Go.ChangeMaps (setBlock)
set_option linter.unusedVariables false
set_option linter.unusedSimpArgs false

/-- A step that writes only old blocks marked t0; the marks of old blocks stand. -/
structure Stp (t0 : Nat) (W : World) (τ : Nat → Nat) (W' : World) (τ' : Nat → Nat) : Prop where
  os : W'.os = W.os
  tape : W'.tape = W.tape
  output : W'.output = W.output
  size : W.heap.size ≤ W'.heap.size
  block : ∀ k, k < W.heap.size → τ k ≠ t0 → W'.heap[k]? = W.heap[k]?
  tag : ∀ k, k < W.heap.size → τ' k = τ k

theorem Stp.refl (t0 : Nat) (W : World) (τ : Nat → Nat) : Stp t0 W τ W τ := ⟨rfl, rfl, rfl, Nat.le_refl _, fun _ _ _ => rfl, fun _ _ => rfl⟩
theorem Stp.trans {t0 : Nat} {A B C : World} {τ σ ρ : Nat → Nat} (h : Stp t0 A τ B σ) (k : Stp t0 B σ C ρ) : Stp t0 A τ C ρ :=
  ⟨k.os.trans h.os, k.tape.trans h.tape, k.output.trans h.output, Nat.le_trans h.size k.size, fun i hi ht => (k.block i (Nat.lt_of_lt_of_le hi h.size) (by rw [h.tag i hi]; exact ht)).trans (h.block i hi ht), fun i hi => (k.tag i (Nat.lt_of_lt_of_le hi h.size)).trans (h.tag i hi)⟩
theorem Stp.below {t0 : Nat} {w W W' : World} {τ τ' : Nat → Nat} (h : Stp t0 W τ W' τ') (hb : Below w.heap.size w W) (ho : ∀ k, k < w.heap.size → τ k = 0) (ht : t0 ≠ 0) : Below w.heap.size w W' ∧ ∀ k, k < w.heap.size → τ' k = 0 :=
  ⟨hb.trans ⟨h.os, h.tape, h.output, h.size, fun k hk => h.block k (Nat.lt_of_lt_of_le hk hb.size) (by rw [ho k hk]; exact fun e => ht e.symm)⟩, fun k hk => (h.tag k (Nat.lt_of_lt_of_le hk hb.size)).trans (ho k hk)⟩
/-- what only makes new blocks -/
theorem Stp.of_below {W W' : World} (h : Below W.heap.size W W') (t0 : Nat) (τ : Nat → Nat) : Stp t0 W τ W' τ := ⟨h.os, h.tape, h.output, h.size, fun k hk _ => h.block k hk, fun _ _ => rfl⟩
def mark (τ : Nat → Nat) (g t : Nat) : Nat → Nat := fun k => if k = g then t else τ k
theorem mark_new (τ : Nat → Nat) (g t : Nat) : mark τ g t g = t := by simp [mark]
/-- a new block, marked -/
theorem Stp.marked {W W' : World} (h : Below W.heap.size W W') (t0 : Nat) (τ : Nat → Nat) {g : Nat} (hg : W.heap.size ≤ g) (t : Nat) : Stp t0 W τ W' (mark τ g t) :=
  ⟨h.os, h.tape, h.output, h.size, fun k hk _ => h.block k hk, fun k hk => by unfold mark; rw [if_neg (by omega)]⟩
theorem Stp.remark {t0 : Nat} {W W' : World} {τ τ' : Nat → Nat} (h : Stp t0 W τ W' τ') {g : Nat} (hg : W.heap.size ≤ g) (t : Nat) : Stp t0 W τ W' (mark τ' g t) :=
  ⟨h.os, h.tape, h.output, h.size, h.block, fun k hk => by unfold mark; rw [if_neg (by omega)]; exact h.tag k hk⟩
theorem Stp.setBlock {W : World} {τ : Nat → Nat} {b : Nat} (o : Obj) : Stp (τ b) W τ (setBlock W b o) τ :=
  ⟨rfl, rfl, rfl, by simp [ChangeMaps.setBlock], fun k hk ht => by
    have : b ≠ k := fun e => ht (by rw [e])
    simp [ChangeMaps.setBlock, Array.getElem?_setIfInBounds, this], fun _ _ => rfl⟩
theorem Stp.setCell {W : World} {τ : Nat → Nat} (a : Addr) (v : Value) : Stp (τ a.block) W τ (W.setCell a v) τ :=
  ⟨rfl, rfl, rfl, by simp [World.setCell], fun k hk ht => Below.heap_setCell _ _ _ _ (fun e => ht (by rw [e])), fun _ _ => rfl⟩
theorem Stp.drewN (t0 : Nat) {W : World} (τ : Nat → Nat) (q : Nat) : Stp t0 W τ (W.drewN q) τ := ⟨rfl, rfl, rfl, Nat.le_refl _, fun _ _ _ => rfl, fun _ _ => rfl⟩

/-- A block of w, with its mark. -/
structure Blk (W : World) (τ : Nat → Nat) (t g : Nat) (o : Obj) : Prop where
  at' : W.heap[g]? = some o
  tag : τ g = t
theorem Blk.step {W W' : World} {τ τ' : Nat → Nat} {t t0 g : Nat} {o : Obj} (h : Blk W τ t g o) (s : Stp t0 W τ W' τ') (hne : t ≠ t0) : Blk W' τ' t g o :=
  ⟨(s.block g (lt_of_block h.at') (by rw [h.tag]; exact hne)).trans h.at', (s.tag g (lt_of_block h.at')).trans h.tag⟩
theorem Blk.lt {W : World} {τ : Nat → Nat} {t g : Nat} {o : Obj} (h : Blk W τ t g o) : g < W.heap.size := lt_of_block h.at'

/-- A slice of the call's own, its row marked t. -/
structure Has (W : World) (τ : Nat → Nat) (t : Nat) (e : TypeId) (sz : Nat) (v : Value) (n : Nat) (xs : List Value) : Prop where
  own : W.ownsRow 0 e sz v n xs
  tag : ∀ g, v.ownBlock = some g → τ g = t
theorem Has.step {W W' : World} {τ τ' : Nat → Nat} {t t0 : Nat} {e : TypeId} {sz : Nat} {v : Value} {n : Nat} {xs : List Value} (h : Has W τ t e sz v n xs) (s : Stp t0 W τ W' τ') (hne : t ≠ t0) : Has W' τ' t e sz v n xs := by
  rcases h.own.2 with ⟨rfl, hn⟩ | ⟨g, cap, cur, rfl, hb, hg, hr⟩
  · exact ⟨⟨h.own.1, Or.inl ⟨rfl, hn⟩⟩, fun g hg => by cases hg⟩
  · have ht : τ g = t := h.tag g rfl
    have hlt := lt_of_block hg
    refine ⟨⟨h.own.1, Or.inr ⟨g, cap, cur, rfl, hb, ?_, hr⟩⟩, fun g' hg' => ?_⟩
    · rw [s.block g hlt (by rw [ht]; exact hne)]; exact hg
    · cases hg'
      exact (s.tag g hlt).trans ht
theorem Has.nil (W : World) (τ : Nat → Nat) (t : Nat) (e : TypeId) (sz : Nat) : Has W τ t e sz (.slice none 0 0) 0 [] := ⟨⟨by simp, Or.inl ⟨rfl, rfl⟩⟩, fun g hg => by cases hg⟩
theorem Has.made {W W' : World} {τ : Nat → Nat} {t g : Nat} {e : TypeId} {sz c n B : Nat} {xs : List Value} (h : W'.ownsRow B e sz (.slice (some ⟨g, 0, none⟩) n c) n xs) : Has W' (mark τ g t) t e sz (.slice (some ⟨g, 0, none⟩) n c) n xs := by
  rcases h.2 with ⟨h1, _⟩ | ⟨g', cap, cur, hv, hb, hg, hr⟩
  · cases h1
  · exact ⟨⟨h.1, Or.inr ⟨g', cap, cur, hv, Nat.zero_le _, hg, hr⟩⟩, fun k hk => by cases hk; exact mark_new _ _ _⟩

/-- append onto such a slice. -/
theorem Has.append {W : World} {τ : Nat → Nat} {t : Nat} {sl e : TypeId} {i : TypeInfo} {z : Value} {sz bytes : Nat} (ty : TypeId) (ht : Yba.prog.underlying sl = some (.slice e)) (hi : Yba.prog.info? e = some i) (hz : i.zero = some z) (hsz : i.size = sz) (hby : i.bytes = bytes) (hzs : z.cells.size = sz) (h0 : 0 < sz)
    {v : Value} {n : Nat} {xs : List Value} (h : Has W τ t e sz v n xs) (a : Addr) (m c : Nat) (news : List Value) (hl : news.length = m * sz) (hnews : ∀ j u, news[j]? = some u → W.cell? (a.add j) = some u) (h1 : ∀ u ∈ news, u.oneCell' = true) (hn : n + m ≤ 10000) (hb : bytes ≤ 1000) :
    ∃ v' W', (Builtin.append_ #[sl, sl] ty #[v, .slice (some a) m c]).run Yba.prog W = .ok v' W' ∧ Has W' (mark τ W.heap.size t) t e sz v' (n + m) (xs ++ news) ∧ Stp t W τ W' (mark τ W.heap.size t) := by
  have hbb : (n + m) * bytes ≤ 10000 * 1000 := Nat.mul_le_mul hn hb
  obtain ⟨v', W', hr, h2, h3, _, h5⟩ := run_append_own_at (P := Yba.prog) W 0 sl ty e i z sz bytes ht hi hz hsz hby hzs h0 v n xs h.own a m c news hl hnews h1 (by unfold maxLen; omega) (by omega) (Nat.zero_le _)
  have hlt : ∀ g, v.ownBlock = some g → g < W.heap.size := fun g hg => by
    rcases h.own.2 with ⟨rfl, _⟩ | ⟨g', cap, cur, rfl, hb, hg', hr⟩
    · cases hg
    · cases hg; exact lt_of_block hg'
  refine ⟨v', W', hr, ⟨h2, fun g hg => ?_⟩, h3.os, h3.tape, h3.output, h3.size, fun k hk ht' => h3.block k hk (fun e => ht' (h.tag k e.symm)), fun k hk => by unfold mark; rw [if_neg (by omega)]⟩
  rcases h5 with h5 | h5
  · rw [h5] at hg
    unfold mark
    rw [if_neg (by have := hlt g hg; omega)]
    exact h.tag g hg
  · rw [h5] at hg
    cases hg
    exact mark_new _ _ _
end Go.Proofs.Ybulkczwi
