import Derived.Test.YbulkczrmFmtKeys
namespace Go.Proofs.YbulkczrmFmt
open Go.RowKit Go.Extern.Stop Go.Stop Go.Extern
set_option linter.unusedVariables false
set_option linter.unusedSimpArgs false

theorem Ybaf.info23 : (Ybaf.prog.info? 23).map (fun i => (i.zero, i.size, i.bytes)) = some (some (.slice none 0 0), 1, 24) := by kernel_rfl
theorem Ybaf.size23 : (Ybaf.prog.info? 23).map (·.size) = some 1 := by kernel_rfl

def nOf (ks : List Key) (i : Nat) : Nat := (ks.getD i noKey).N
def xsOf (ks : List Key) (i : Nat) : List Int := (ks.getD i noKey).xs

/-- The keys ks in the row at blk, ready to be built into a page. -/
structure Rdy (F : Interp) (w W : World) (blk : Nat) (ks : List Key) (k : Nat) : Prop where
  keys : Keys W blk ks
  len : ks.length = k
  few : k ≤ 1026
  sum : sumK ks ≤ 41100
  kinds : Kinds W
  ans : F.answers W.tape
  bel : Below w.heap.size w W

theorem Rdy.below {F : Interp} {w W W' : World} {blk : Nat} {ks : List Key} {k : Nat} (h : Rdy F w W blk ks k) (hb : Below W.heap.size W W') : Rdy F w W' blk ks k :=
  ⟨h.keys.below hb (Nat.le_refl _), h.len, h.few, h.sum, h.kinds.cell fun a v ha => cell_in hb ha, by rw [hb.tape]; exact h.ans, h.bel.trans (hb.mono h.bel.size)⟩

theorem nOf_sum (ks : List Key) : sumN (nOf ks) ks.length = sumK ks := sumN_all ks
theorem nOf_le (ks : List Key) (i : Nat) : nOf ks i ≤ sumK ks := by
  induction ks generalizing i with
  | nil => simp [nOf, sumK, noKey]
  | cons x l ih =>
    cases i with
    | zero => simp [nOf, sumK]
    | succ i =>
      have := ih i
      simp only [nOf, sumK, List.getD_cons_succ] at this ⊢
      omega

/-- The keys are ready, and the page X of them stands at g. -/
structure Pgd (F : Interp) (w W : World) (blk : Nat) (ks : List Key) (k g sz t hd : Nat) (X : List Int) : Prop where
  rdy : Rdy F w W blk ks k
  page : PageIn W g sz k t hd (nOf ks) (xsOf ks) X
  low : 4 ≤ sz

theorem Pgd.below {F : Interp} {w W W' : World} {blk : Nat} {ks : List Key} {k g sz t hd : Nat} {X : List Int} (h : Pgd F w W blk ks k g sz t hd X) (hb : Below W.heap.size W W') : Pgd F w W' blk ks k g sz t hd X :=
  ⟨h.rdy.below hb, h.page.in' hb (lt_of_block h.page.page) (World.block_lt_of_cell? _ _ h.rdy.kinds.leaf), h.low⟩

theorem ofs_of {ks : List Key} {k hd : Nat} (h : ks.length = k) : ofsN k hd (nOf ks) k = 4 + 2 * k + (hd + 8) * k + sumK ks := by
  rw [ofsN_sum, ← h, nOf_sum]

/-- zzs5056cbuild, of keys that are ready. -/
theorem build_rdy {F : Interp} {w W : World} {blk : Nat} {ks : List Key} {k : Nat} (cap : Nat) (int : Bool) (t hd : Nat) (h : Rdy F w W blk ks k) (hi : (int = false ∧ t = 1 ∧ hd = 4) ∨ (int = true ∧ t = 2 ∧ hd = 6)) :
    Calls Ybaf.prog 8 #[.slice (some ⟨blk, 0, none⟩) k cap, .bool int] W fun e w' => ∃ sz X, e = .returned (.slice (some ⟨W.heap.size, 0, none⟩) sz sz) ∧ Hid (Pgd F w w' blk ks k W.heap.size sz t hd X) := by
  have hk := h.keys.keysIn
  rw [h.len] at hk
  have ho := ofs_of (hd := hd) h.len
  have hf := h.few
  have hs := h.sum
  have hhd : hd ≤ 6 := by omega
  have h62 : ofsN k hd (nOf ks) k ≤ 62000 := by
    rw [ho]
    have := Nat.mul_le_mul (show hd + 8 ≤ 14 by omega) hf
    omega
  refine (build_any _ k cap t hd int _ _ _ _ W hk h.kinds h.few h62 hi).mono ?_
  rintro e w' ⟨X, rfl, hX, hb, hbel⟩
  refine ⟨_, X, rfl, h.below hbel, ⟨hX, hb, rfl, Nat.lt_of_le_of_lt h62 (by omega), h.kinds.cell fun a v ha => cell_in hbel ha, fun i hi => ?_, fun i hi => ?_⟩, ?_⟩
  · exact (h.keys.good _ (getD_mem (by rw [h.len]; exact hi))).bin.len
  · exact h.keys.bytes _ (getD_mem (by rw [h.len]; exact hi))
  · show 4 ≤ ofsN k hd (nOf ks) k
    rw [ho]; omega

/-- bytes.Clone of the page. -/
theorem clone_pg {F : Interp} {w W : World} {blk : Nat} {ks : List Key} {k g sz t hd : Nat} {X : List Int} (h : Pgd F w W blk ks k g sz t hd X) :
    Calls Ybaf.prog 9 #[.slice (some ⟨g, 0, none⟩) sz sz] W fun e w' => ∃ g' c, e = .returned (.slice (some ⟨g', 0, none⟩) sz c) ∧ Hid (Pgd F w w' blk ks k g sz t hd X ∧ BIn w' (some ⟨g', 0, none⟩) sz X) := by
  refine (clone_any g sz X W h.page.page h.page.built.len (by have := h.low; omega) h.page.small).mono ?_
  rintro e w' ⟨g', c, rfl, hb, hbel⟩
  exact ⟨g', c, rfl, h.below hbel, hb⟩

/-- keysAscend of the page. -/
theorem ascend_pg {F : Interp} {w W : World} {blk : Nat} {ks : List Key} {k g sz t hd : Nat} {X : List Int} (f : Nat) (h : Pgd F w W blk ks k g sz t hd X) (hkh : (t = 1 ∧ hd = 4 ∧ f = 0) ∨ (t = 2 ∧ hd = 6 ∧ f = 1)) (hfn : f ≤ k) :
    Calls Ybaf.prog 10 #[.slice (some ⟨g, 0, none⟩) sz sz] W fun e w' => e = .returned (.bool (okB (xsOf ks) f k)) ∧ Hid (Pgd F w w' blk ks k g sz t hd X ∧ Below W.heap.size W w') := by
  refine (ascend_any F g sz k t hd f (nOf ks) (xsOf ks) X W h.rdy.ans h.page (by unfold KH; omega) (by omega) hfn h.rdy.few).mono ?_
  rintro e w' ⟨rfl, hbel⟩
  exact ⟨rfl, h.below hbel, hbel⟩

/-- zzs5056cmodel of the keys. -/
theorem model_pg {F : Interp} {w W : World} {blk : Nat} {ks : List Key} {k : Nat} (cap f : Nat) (h : Rdy F w W blk ks k) (hf : f ≤ 1) (hfn : f ≤ k) :
    Calls Ybaf.prog 11 #[.slice (some ⟨blk, 0, none⟩) k cap, .int .i64 f] W fun e w' => e = .returned (.bool (okB (xsOf ks) f k)) ∧ ∃ q, w' = W.drewN q := by
  have hk := h.keys.keysIn
  rw [h.len] at hk
  refine model_any _ k cap f _ _ _ _ W hk hf hfn h.few fun i hi => ?_
  have := nOf_le ks i
  have := h.sum
  show nOf ks i < 65536
  omega

/-- bytes.Equal of the page and what was cloned of it. -/
theorem equal_pg {F : Interp} {w W : World} {blk : Nat} {ks : List Key} {k g sz t hd : Nat} {X : List Int} {p : Option Addr} (c q : Nat) (h : Pgd F w W blk ks k g sz t hd X) (hp : BIn W p sz X) :
    Calls Ybaf.prog 12 #[.slice (some ⟨g, 0, none⟩) sz sz, .slice p sz c] (W.drewN q) fun e w' => e = .returned (.bool true) ∧ w' = W.drewN q := by
  have hx : BIn W (some ⟨g, 0, none⟩) sz X := by
    refine ⟨h.page.built.len, fun h0 => ⟨g, 0, rfl, fun j hj => ?_⟩⟩
    rw [Nat.zero_add, cell_of_row _ _ _ _ _ _ h.page.page]
    simp [bcells, h.page.built.len, hj]
  have hd : Below W.heap.size W (W.drewN q) := ⟨rfl, rfl, rfl, Nat.le_refl _, fun _ _ => rfl⟩
  exact equal_same _ _ _ _ _ _ X _ (bin_in hx hd) (bin_in hp hd)
end Go.Proofs.YbulkczrmFmt
