import Derived.Test.YbulkczrmFmtRepeat
import Derived.Test.YbulkczrmFmtLaid
namespace Go.Proofs.YbulkczrmFmt
open Go.Shelf Go.RowKit Go.Lib Go.Sort
set_option linter.unusedVariables false
set_option linter.unusedSimpArgs false

/-! ### the order of the keys -/
theorem cmpI_self : ∀ xs : List Int, cmpI xs xs = 0
  | [] => rfl
  | a :: l => by simp only [cmpI, Int.lt_irrefl, if_false]; exact cmpI_self l
theorem cmpI_neg : ∀ xs ys : List Int, cmpI ys xs = - cmpI xs ys
  | [], [] => rfl
  | [], _ :: _ => rfl
  | _ :: _, [] => rfl
  | a :: l, b :: r => by
    simp only [cmpI]
    by_cases h1 : a < b
    · have h2 : ¬ b < a := by omega
      simp [h1, h2]
    · by_cases h2 : b < a
      · simp [h1, h2]
      · simp only [h1, h2, if_false]; exact cmpI_neg l r
theorem cmpI_zero : ∀ xs ys : List Int, cmpI xs ys = 0 → xs = ys
  | [], [], _ => rfl
  | [], _ :: _, h => by simp [cmpI] at h
  | _ :: _, [], h => by simp [cmpI] at h
  | a :: l, b :: r, h => by
    simp only [cmpI] at h
    by_cases h1 : a < b
    · simp [h1] at h
    · by_cases h2 : b < a
      · simp [h1, h2] at h
      · simp only [h1, h2, if_false] at h
        rw [cmpI_zero l r h, show a = b by omega]
theorem cmpI_trans : ∀ xs ys zs : List Int, cmpI xs ys < 0 → cmpI ys zs < 0 → cmpI xs zs < 0
  | [], [], _, h, _ => by simp [cmpI] at h
  | [], _ :: _, [], _, h => by simp [cmpI] at h
  | [], _ :: _, _ :: _, _, _ => by simp [cmpI]
  | _ :: _, [], _, h, _ => by simp [cmpI] at h
  | _ :: _, _ :: _, [], _, h => by simp [cmpI] at h
  | a :: l, b :: r, c :: s, h1, h2 => by
    simp only [cmpI] at h1 h2 ⊢
    by_cases hab : a < b
    · by_cases hbc : b < c
      · rw [if_pos (by omega)]; omega
      · by_cases hcb : c < b
        · rw [if_neg hbc, if_pos hcb] at h2; omega
        · rw [if_pos (by omega)]; omega
    · by_cases hba : b < a
      · rw [if_neg hab, if_pos hba] at h1; omega
      · rw [if_neg hab, if_neg hba] at h1
        by_cases hbc : b < c
        · rw [if_pos (by omega)]; omega
        · by_cases hcb : c < b
          · rw [if_neg hbc, if_pos hcb] at h2; omega
          · rw [if_neg hbc, if_neg hcb] at h2
            rw [if_neg (by omega), if_neg (by omega)]
            exact cmpI_trans l r s h1 h2
theorem cmpI_ntrans (xs ys zs : List Int) (h1 : 0 ≤ cmpI xs ys) (h2 : 0 ≤ cmpI ys zs) : 0 ≤ cmpI xs zs := by
  rcases Int.lt_or_le (cmpI xs zs) 0 with h | h
  · rcases Int.lt_or_eq_of_le h1 with a | a
    · have a' : cmpI ys xs < 0 := by rw [cmpI_neg]; omega
      have := cmpI_trans _ _ _ a' h
      omega
    · rw [cmpI_zero _ _ a.symm] at h; omega
  · exact h

/-- A key in memory: its slice and its bytes. -/
structure Key where
  P : Option Addr
  N : Nat
  C : Nat
  xs : List Int
def noKey : Key := ⟨none, 0, 0, []⟩
/-- The key is readable in w, and does not lie in block blk. -/
structure Good (w : World) (blk : Nat) (k : Key) : Prop where
  bin : BIn w k.P k.N k.xs
  mx : k.N ≤ 9223372036854775807
  far : ∀ b o, 0 < k.N → k.P = some ⟨b, o, none⟩ → b ≠ blk
theorem good_default (w : World) (blk : Nat) : Good w blk noKey := ⟨⟨rfl, fun h => absurd h (Nat.lt_irrefl _)⟩, Nat.zero_le _, fun _ _ h => absurd h (Nat.lt_irrefl _)⟩
def encK (k : Key) : Value := .slice k.P k.N k.C
theorem Good.upd {w W : World} {blk : Nat} {k : Key} (h : Good w blk k) (hu : Upd [blk] w W) : Good W blk k := by
  refine ⟨⟨h.bin.len, fun h0 => ?_⟩, h.mx, h.far⟩
  obtain ⟨b, o, e, hc⟩ := h.bin.at' h0
  exact ⟨b, o, e, fun j hj => cell_upd hu (hc j hj) (by simpa using h.far b o h0 e)⟩

theorem upd_sortWorld {α : Type} [Inhabited α] (enc : α → Value) (w : World) (blk off n : Nat) (d : Array α) (os : Array Obj) : Upd [blk] w (sortWorld enc w blk off n d os) := by
  refine ⟨rfl, rfl, rfl, ?_, fun k hk hs => ?_⟩
  · simp [sortWorld, grow, Sort.ahead]
  · have hne : k ≠ blk := by simpa using hs
    have h1 : (putRow enc (Sort.ahead w n) blk off d).heap[k]? = w.heap[k]? := by
      show (w.heap.modify blk _)[k]? = _
      rw [Array.getElem?_modify]
      rw [if_neg (fun e => hne e.symm)]
    show ((putRow enc (Sort.ahead w n) blk off d).heap ++ os)[k]? = _
    rw [Array.getElem?_append_left (by simpa [Sort.ahead] using hk), h1]

theorem swoK {α : Type} (f : α → List Int) : SWO (ltOf fun x y : α => cmpI (f x) (f y)) where
  irrefl x := by simp [ltOf, cmpI_self]
  trans x y z h1 h2 := by simp only [ltOf, decide_eq_true_eq] at *; exact cmpI_trans _ _ _ h1 h2
  ntrans x y z h1 h2 := by simp only [ltOf, decide_eq_false_iff_not, Int.not_lt] at *; exact cmpI_ntrans _ _ _ h1 h2

/-- The keys that can stand in the row. -/
abbrev GoodKey (w : World) (blk : Nat) : Type := { k : Key // Good w blk k }
/-- The row at blk, from off on, holds the keys ks. -/
def RowK (w : World) (blk off : Nat) (ks : List Key) : Prop := ∀ j, j < ks.length → w.cell? ⟨blk, off + j, none⟩ = some (encK (ks.getD j noKey)) ∧ w.frozen? ⟨blk, off + j, none⟩ = false

theorem cmpReads_k (w : World) (blk off n : Nat) [Inhabited (GoodKey w blk)] : CmpReads Ybaf.prog 6 #[] (fun k : GoodKey w blk => encK k.val) (fun x y => cmpI x.val.xs y.val.xs) blk off n w := by
  intro m os dk hs x y
  have hu := upd_sortWorld (fun k : GoodKey w blk => encK k.val) w blk off m dk os
  exact ccmp_any _ _ _ _ _ _ _ _ _ (x.property.upd hu).bin (y.property.upd hu).bin x.property.mx y.property.mx

/-- slices.SortFunc(.., zzs5056ccmp) -/
theorem sort_any (blk off cap : Nat) (ks : List Key) (w : World) (hR : RowK w blk off ks) (hG : ∀ k ∈ ks, Good w blk k) (hblk : blk < w.heap.size) (hn : ks.length ≤ 1026) :
    Calls Ybaf.prog 5 #[.slice (some ⟨blk, off, none⟩) ks.length cap, .func (.func 6) #[] #[]] w fun e w' => e = .returned (.tuple #[]) ∧
      ∃ ks', ks'.Perm ks ∧ (∀ i j, i < j → j < ks'.length → 0 ≤ cmpI (ks'.getD j noKey).xs (ks'.getD i noKey).xs) ∧ RowK w' blk off ks' ∧ Upd [blk] w w' := by
  have inh : Inhabited (GoodKey w blk) := ⟨⟨noKey, good_default w blk⟩⟩
  let d : Array (GoodKey w blk) := (ks.pmap (fun k h => ⟨k, h⟩) hG).toArray
  have hd : d.size = ks.length := by simp [d]
  have hget : ∀ j, j < ks.length → (d[j]!).val = ks.getD j noKey := fun j hj => by
    have : d[j]! = d[j]'(by omega) := getElem!_pos d j (by omega)
    rw [this]
    simp [d, hj]
  have hH : Holds (fun k : GoodKey w blk => encK k.val) w blk off d := fun j hj => by
    have := hR j (by omega)
    show _ = some (encK (d[j]!).val) ∧ _
    rw [hget j (by omega)]; exact this
  have eg : ∀ args w, (callFunc 6 args).run Ybaf.prog w = .ok (.enter 6 args) w := enters_of Ybaf.func6 (by kernel_rfl) rfl
  have hcon := Any.slices_SortFunc Ybaf.sortK (fun k : GoodKey w blk => encK k.val) (fun _ => rfl) (fun x y => cmpI x.val.xs y.val.xs) (swoK fun x : GoodKey w blk => x.val.xs) 6 #[] blk off cap d w eg (cmpReads_k w blk off d.size).lays hH hblk (by omega)
  change Calls Ybaf.prog 5 _ _ _ at hcon
  rw [hd] at hcon
  refine hcon.mono ?_
  rintro e w' ⟨rfl, d', n, os, hp, hs, rfl⟩
  have hsz : d'.size = ks.length := hp.1.trans hd
  have hgd' : ∀ j, j < ks.length → (d'.toList.map Subtype.val).getD j noKey = (d'[j]!).val := fun j hj => by
    have : d'[j]! = d'[j]'(by omega) := getElem!_pos d' j (by omega)
    rw [this]
    simp [show j < d'.size by omega]
  refine ⟨rfl, d'.toList.map Subtype.val, ?_, ?_, ?_, upd_sortWorld _ _ _ _ _ _ _⟩
  · have h1 := hp.2.2
    rw [← hsz] at h1
    have e1 : (d'.extract 0 d'.size).toList = d'.toList := by simp
    have e2 : (d.extract 0 d'.size).toList = d.toList := by rw [hsz, ← hd]; simp
    rw [e1, e2] at h1
    have h2 := h1.map Subtype.val
    refine h2.trans ?_
    rw [show d.toList.map Subtype.val = ks by simp [d, List.map_pmap]]
  · intro i j hij hj
    have hj' : j < ks.length := by simpa [hsz] using hj
    have := hs i j (Nat.zero_le _) hij hj'
    rw [hgd' j hj', hgd' i (by omega)]
    simpa [ltOf] using this
  · intro j hj
    have hj' : j < ks.length := by simpa [hsz] using hj
    have := holds_sortWorld (fun k : GoodKey w blk => encK k.val) w blk off n d d' os hblk hH hp.1 j (by omega)
    rw [hgd' j hj']; exact this
end Go.Proofs.YbulkczrmFmt
