import Derived.Test.YbulkczrmFmtSort
namespace Go.Proofs.YbulkczrmFmt
open Go.RowKit
set_option linter.unusedVariables false
set_option linter.unusedSimpArgs false

def sumN (N : Nat → Nat) : Nat → Nat
  | 0 => 0
  | j + 1 => sumN N j + N j
theorem ofsN_sum (n hd : Nat) (N : Nat → Nat) : ∀ j, ofsN n hd N j = 4 + 2 * n + (hd + 8) * j + sumN N j
  | 0 => by simp [ofsN, sumN]
  | j + 1 => by
    have := ofsN_sum n hd N j
    show ofsN n hd N j + hd + N j + 8 = _ + (sumN N j + N j)
    rw [this, Nat.mul_succ]; omega
def sumK : List Key → Nat
  | [] => 0
  | k :: l => k.N + sumK l
theorem sumK_perm {a b : List Key} (h : a.Perm b) : sumK a = sumK b := by
  induction h with
  | nil => rfl
  | cons x _ ih => simp only [sumK, ih]
  | swap x y l => simp only [sumK]; omega
  | trans _ _ h1 h2 => exact h1.trans h2
theorem sumK_append (a b : List Key) : sumK (a ++ b) = sumK a + sumK b := by
  induction a with
  | nil => simp [sumK]
  | cons x l ih => simp only [List.cons_append, sumK, ih]; omega
theorem sumN_take (ks : List Key) : ∀ j, j ≤ ks.length → sumN (fun i => (ks.getD i noKey).N) j = sumK (ks.take j)
  | 0, _ => by simp [sumN, sumK]
  | j + 1, h => by
    have ih := sumN_take ks j (by omega)
    rw [List.take_succ_eq_append_getElem h, sumK_append]
    simp only [sumN, ih, sumK]
    simp [show j < ks.length from h]
theorem sumN_all (ks : List Key) : sumN (fun i => (ks.getD i noKey).N) ks.length = sumK ks := by
  rw [sumN_take ks _ (Nat.le_refl _), List.take_length]
theorem sumK_set (ks : List Key) (i : Nat) (k : Key) : sumK (ks.set i k) ≤ sumK ks + k.N := by
  induction ks generalizing i with
  | nil => simp [sumK]
  | cons x l ih =>
    cases i with
    | zero => simp only [List.set_cons_zero, sumK]; omega
    | succ i => simp only [List.set_cons_succ, sumK]; have := ih i; omega
def ksOf (P : Nat → Option Addr) (N C : Nat → Nat) (kbs : Nat → List Int) (n : Nat) : List Key := (List.range n).map fun i => ⟨P i, N i, C i, kbs i⟩
theorem ksOf_len (P : Nat → Option Addr) (N C : Nat → Nat) (kbs : Nat → List Int) (n : Nat) : (ksOf P N C kbs n).length = n := by simp [ksOf]
theorem ksOf_get {P : Nat → Option Addr} {N C : Nat → Nat} {kbs : Nat → List Int} {n i : Nat} (h : i < n) : (ksOf P N C kbs n).getD i noKey = ⟨P i, N i, C i, kbs i⟩ := by simp [ksOf, h]
theorem ksOf_sum (P : Nat → Option Addr) (N C : Nat → Nat) (kbs : Nat → List Int) : ∀ n, sumK (ksOf P N C kbs n) = sumN N n
  | 0 => rfl
  | n + 1 => by
    have ih := ksOf_sum P N C kbs n
    unfold ksOf at ih ⊢
    rw [List.range_succ, List.map_append, sumK_append, ih]
    simp [sumK, sumN]
theorem ksOf_mem {P : Nat → Option Addr} {N C : Nat → Nat} {kbs : Nat → List Int} {n : Nat} {k : Key} (h : k ∈ ksOf P N C kbs n) : ∃ i, i < n ∧ k = ⟨P i, N i, C i, kbs i⟩ := by
  simp only [ksOf, List.mem_map, List.mem_range] at h
  obtain ⟨i, hi, e⟩ := h
  exact ⟨i, hi, e.symm⟩

/-- The keys in the row at blk, each readable, each byte a byte. -/
structure Keys (w : World) (blk : Nat) (ks : List Key) : Prop where
  row : RowK w blk 0 ks
  good : ∀ k ∈ ks, Good w blk k
  bytes : ∀ k ∈ ks, Bytes k.xs
theorem getD_mem {ks : List Key} {i : Nat} (h : i < ks.length) : ks.getD i noKey ∈ ks := by
  have : ks.getD i noKey = ks[i] := by simp [h]
  rw [this]; exact List.getElem_mem h
theorem Keys.keysIn {w : World} {blk : Nat} {ks : List Key} (h : Keys w blk ks) : KeysIn w (some ⟨blk, 0, none⟩) ks.length (fun i => (ks.getD i noKey).P) (fun i => (ks.getD i noKey).N) (fun i => (ks.getD i noKey).C) (fun i => (ks.getD i noKey).xs) :=
  ⟨fun _ => ⟨blk, 0, rfl, fun i hi => (h.row i hi).1⟩, fun i hi => (h.good _ (getD_mem hi)).bin⟩
theorem Keys.perm {w w' : World} {blk : Nat} {ks ks' : List Key} (h : Keys w blk ks) (hp : ks'.Perm ks) (hr : RowK w' blk 0 ks') (hu : Upd [blk] w w') : Keys w' blk ks' :=
  ⟨hr, fun k hk => (h.good k (hp.mem_iff.1 hk)).upd hu, fun k hk => h.bytes k (hp.mem_iff.1 hk)⟩
theorem Keys.below {w W : World} {B blk : Nat} {ks : List Key} (h : Keys w blk ks) (hb : Below B w W) (hB : w.heap.size ≤ B) : Keys W blk ks := by
  have hB' : Below w.heap.size w W := hb.mono hB
  refine ⟨fun j hj => ?_, fun k hk => ?_, h.bytes⟩
  · have := h.row j hj
    have hlt := World.block_lt_of_cell? _ _ this.1
    exact ⟨by rw [hB'.cell hlt]; exact this.1, by rw [hB'.frozen hlt]; exact this.2⟩
  · have := h.good k hk
    exact ⟨bin_in this.bin hB', this.mx, this.far⟩
/-- a new block of bytes put at place i of the row -/
theorem Keys.set {w w' : World} {blk i : Nat} {ks : List Key} {k : Key} (h : Keys w blk ks) (hw : w' = w.setCell ⟨blk, i, none⟩ (encK k)) (hi : i < ks.length) (hk : Good w blk k) (hkb : Bytes k.xs) : Keys w' blk (ks.set i k) := by
  have hu : Upd [blk] w w' := by rw [hw]; exact (Upd.refl _ _).setCell (by simp) _
  refine ⟨fun j hj => ?_, fun x hx => ?_, fun x hx => ?_⟩
  · rw [List.length_set] at hj
    have h1 := h.row j hj
    have h2 := h.row i hi
    rw [hw]
    refine ⟨?_, ?_⟩
    · by_cases e : j = i
      · subst e
        rw [Nat.zero_add] at h1 ⊢
        rw [World.cell?_setCell_same _ _ _ h1.1]
        simp [hj]
      · rw [World.cell?_setCell_other _ _ _ _ (by intro e'; apply e; have := congrArg Addr.off e'; simp at this; omega)]
        rw [h1.1]
        congr 2
        simp [List.getElem?_set, show ¬ i = j from fun e' => e e'.symm]
    · rw [World.frozen?_setCell]; exact h1.2
  · rcases List.mem_or_eq_of_mem_set hx with hx | rfl
    · exact (h.good x hx).upd hu
    · exact hk.upd hu
  · rcases List.mem_or_eq_of_mem_set hx with hx | rfl
    · exact h.bytes x hx
    · exact hkb
end Go.Proofs.YbulkczrmFmt
