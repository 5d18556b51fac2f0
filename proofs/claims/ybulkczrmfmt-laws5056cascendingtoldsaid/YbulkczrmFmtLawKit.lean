import Derived.Test.YbulkczrmFmtPages
namespace Go.Proofs.YbulkczrmFmt
open Go.RowKit Go.Extern.Stop Go.Stop Go.Extern
set_option linter.unusedVariables false
set_option linter.unusedSimpArgs false


/-- What came in. -/
structure In (F : Interp) (w : World) (a : Option Addr) (len : Nat) (P : Nat → Option Addr) (N C : Nat → Nat) (kbs : Nat → List Int) : Prop where
  keys : KeysIn w a len P N C kbs
  mx : ∀ i, i < len → N i ≤ 9223372036854775807
  bytes : ∀ i, i < len → Bytes (kbs i)
  kinds : Kinds w
  ans : F.answers w.tape

theorem model_long (a0 : Option Addr) (len0 cap0 : Nat) (v1 v2 v3 v4 v5 : Value) (w : World) (h : 1024 < len0) :
    Calls Ybaf.prog 3 #[.slice a0 len0 cap0, v1, v2, v3, v4, v5] w fun e w' => e = .returned (.bool true) ∧ Below w.heap.size w w' := by
  go_enter Ybaf.func3, Ybaf.ntmps3
  go_wp2
  go_ret
  exact ⟨rfl, Below.refl _ _⟩

/-- The copied keys in the new row. -/
theorem keys_copied {w w2 : World} {a : Option Addr} {len : Nat} {P : Nat → Option Addr} {N C : Nat → Nat} {kbs : Nat → List Int} {F : Interp} (h : In F w a len P N C kbs) (hb : Below w.heap.size w w2)
    (hr : w2.heap[w.heap.size]? = some (.cells ((ksOf P N C kbs len).map encK).toArray 23 (0, 0))) : Keys w2 w.heap.size (ksOf P N C kbs len) := by
  refine ⟨fun j hj => ?_, fun k hk => ?_, fun k hk => ?_⟩
  · rw [Nat.zero_add]
    refine ⟨?_, frozen_of_row _ _ _ _ _ hr⟩
    rw [cell_of_row _ _ _ _ _ _ hr]
    simp [hj]
  · obtain ⟨i, hi, rfl⟩ := ksOf_mem hk
    have hB := h.keys.els i hi
    refine ⟨bin_in hB hb, h.mx i hi, fun b o h0 e => ?_⟩
    obtain ⟨b2, o2, e2, hc⟩ := hB.at' h0
    have hlt := World.block_lt_of_cell? _ _ (hc 0 h0)
    rw [show P i = some ⟨b, o, none⟩ from e] at e2
    simp only [Option.some.injEq, Addr.mk.injEq, and_true] at e2
    have : b2 < w.heap.size := hlt
    omega
  · obtain ⟨i, hi, rfl⟩ := ksOf_mem hk
    exact h.bytes i hi

theorem run_rem {x y z : Int} (hk : ¬ y = 0) (h : x.tmod y = z) (W : World) : (Op.intDiv .rem .i64 x y).run Ybaf.prog W = .ok (.int .i64 z) W := by
  unfold Op.intDiv; rw [if_neg hk, h]; rfl
theorem new255 (W : World) : (W.alloc (.cells #[.int .u8 255] 5)).drew.cell? ⟨W.heap.size, 0, none⟩ = some (.int .u8 255) := by
  show (W.alloc (.cells #[.int .u8 255] 5)).cell? ⟨W.heap.size, 0, none⟩ = _
  rw [World.cell?_alloc_new]; rfl
theorem keepA {W : World} {b i : Nat} {v : Value} {o : Obj} (h : W.cell? ⟨b, i, none⟩ = some v ∧ W.frozen? ⟨b, i, none⟩ = false) : (W.alloc o).cell? ⟨b, i, none⟩ = some v ∧ (W.alloc o).frozen? ⟨b, i, none⟩ = false := by
  have hlt := World.block_lt_of_cell? _ _ h.1
  exact ⟨cell_alloc _ h.1, by rw [World.frozen?_alloc_past _ _ _ hlt]; exact h.2⟩
theorem keepB {W W' : World} {a : Addr} {v : Value} (h : W.cell? a = some v ∧ W.frozen? a = false) (hb : Below W.heap.size W W') : W'.cell? a = some v ∧ W'.frozen? a = false := by
  have hlt := World.block_lt_of_cell? _ _ h.1
  exact ⟨cell_in hb h.1, by rw [hb.frozen hlt]; exact h.2⟩
theorem keepC {W W' : World} {b i : Nat} {v : Value} {o : Obj} (h : W.cell? ⟨b, i, none⟩ = some v ∧ W.frozen? ⟨b, i, none⟩ = false) (hb : Below (W.alloc o).drew.heap.size (W.alloc o).drew W') : W'.cell? ⟨b, i, none⟩ = some v ∧ W'.frozen? ⟨b, i, none⟩ = false :=
  keepB (W := (W.alloc o).drew) (keepA h) hb
theorem row_made {w1 : World} {g B k : Nat} {xs : List Value} (hown : w1.ownsRow B 23 1 (.slice (some ⟨g, 0, none⟩) k k) k xs) (hx : xs = List.replicate k (Value.slice none 0 0)) : w1.heap[g]? = some (.cells (List.replicate k (Value.slice none 0 0)).toArray 23 (0, 0)) := by
  rcases hown.2 with ⟨h, _⟩ | ⟨g', c, cur, hv, _, hh, _, _, hs, ht⟩
  · cases h
  · simp only [Value.slice.injEq, Option.some.injEq, Addr.mk.injEq, and_true, true_and] at hv
    obtain ⟨rfl, rfl⟩ := hv
    have : cur.toList = List.replicate k (Value.slice none 0 0) := by
      rw [List.take_of_length_le (by simp [hs])] at ht
      rw [ht, hx]
    rw [hh, ← this]
theorem keys_src {w W : World} {b o n : Nat} {P : Nat → Option Addr} {N C : Nat → Nat} {kbs : Nat → List Int} (hb : Below w.heap.size w W) (hc : ∀ i, i < n → w.cell? ⟨b, o + i, none⟩ = some (.slice (P i) (N i) (C i))) : ∀ j v, ((ksOf P N C kbs n).map encK)[j]? = some v → W.cell? ((⟨b, o, none⟩ : Addr).add j) = some v := by
  intro j v hj
  have hjl : j < n := by
    rcases Nat.lt_or_ge j n with h | h
    · exact h
    · rw [List.getElem?_eq_none (by rw [List.length_map, ksOf_len]; exact h)] at hj; cases hj
  rw [Addr.add_lit, cell_in hb (hc j hjl), ← hj]
  simp [ksOf, encK, hjl]
theorem encK_one (ks : List Key) : ∀ v ∈ ks.map encK, v.oneCell' = true := by
  intro v hv
  obtain ⟨x, _, rfl⟩ := List.mem_map.1 hv
  rfl
theorem splice_all {α : Type} (l x : List α) (h : l.length = x.length) : splice l 0 x = x := by
  unfold splice; rw [Nat.zero_add, ← h]; simp


theorem rdy_start {F : Interp} {w W : World} {a : Option Addr} {len : Nat} {P : Nat → Option Addr} {N C : Nat → Nat} {kbs : Nat → List Int} {blk : Nat} {ks : List Key} (h : In F w a len P N C kbs) (hl : len ≤ 1024) (hs : sumN N len ≤ 40000) (hk : Keys W blk ks) (hb : Below w.heap.size w W) (hlen : ks.length = len) (hsum : sumK ks = sumN N len) : Rdy F w W blk ks len :=
  ⟨hk, hlen, by omega, by omega, h.kinds.cell fun a v ha => cell_in hb ha, by rw [hb.tape]; exact h.ans, hb⟩

def ffKey (g T : Nat) : Key := ⟨some ⟨g, 0, none⟩, T, T, List.replicate T 255⟩
theorem rdy_set {F : Interp} {w w3 w4 w5 : World} {ks : List Key} {k idx T g : Nat} (h : Rdy F w w3 w.heap.size ks k) (hs : sumK ks ≤ 40000) (h0 : 0 < w.heap.size) (hidx : idx < k) (hT : T ≤ 1004)
    (hB : BIn w4 (some ⟨g, 0, none⟩) T (List.replicate T 255)) (hb : Below w3.heap.size w3 w4) (hg : w.heap.size < g) (hw : w5 = w4.setCell ⟨w.heap.size, idx, none⟩ (.slice (some ⟨g, 0, none⟩) T T)) :
    Rdy F w w5 w.heap.size (ks.set idx (ffKey g T)) k := by
  have h4 := h.below hb
  have hgood : Good w4 w.heap.size (ffKey g T) := ⟨hB, by show T ≤ _; omega, fun b o _ e => by
    simp only [ffKey, Option.some.injEq, Addr.mk.injEq, and_true] at e
    omega⟩
  have hu : Upd [w.heap.size] w4 w5 := by rw [hw]; exact (Upd.refl _ _).setCell (by simp) _
  refine ⟨h4.keys.set (k := ffKey g T) hw (by rw [h.len]; exact hidx) hgood ?_, by rw [List.length_set]; exact h.len, h.few, ?_, ?_, ?_, Upd.below h4.bel hu (by simp) h4.bel.size⟩
  · intro x hx
    have := List.eq_of_mem_replicate hx
    omega
  · have := sumK_set ks idx (ffKey g T)
    have : (ffKey g T).N = T := rfl
    omega
  · exact ⟨cell_upd hu h4.kinds.leaf (by simp; omega), cell_upd hu h4.kinds.int (by simp; omega)⟩
  · rw [hw]; exact h4.ans
end Go.Proofs.YbulkczrmFmt
