import Derived.Test.YbulkczrmFmtPages
namespace Go.Proofs.YbulkczrmFmt
open Go.Shelf Go.RowKit Go.Lib Go.Sort
set_option linter.unusedVariables false
set_option linter.unusedSimpArgs false

/-- The cells of block blk ahead of off stand as they stood. -/
def Low (blk off : Nat) (w w' : World) : Prop := ∀ j, j < off → w'.cell? ⟨blk, j, none⟩ = w.cell? ⟨blk, j, none⟩ ∧ w'.frozen? ⟨blk, j, none⟩ = w.frozen? ⟨blk, j, none⟩
theorem Low.refl (blk off : Nat) (w : World) : Low blk off w w := fun _ _ => ⟨rfl, rfl⟩
theorem Low.trans {blk off : Nat} {a b c : World} (h : Low blk off a b) (k : Low blk off b c) : Low blk off a c := fun j hj => ⟨(k j hj).1.trans (h j hj).1, (k j hj).2.trans (h j hj).2⟩
theorem low_sortWorld {α : Type} [Inhabited α] (enc : α → Value) (w : World) (blk off n : Nat) (d : Array α) (os : Array Obj) (hblk : blk < w.heap.size) : Low blk off w (sortWorld enc w blk off n d os) := by
  intro j hj
  have hlt : blk < (putRow enc (Sort.ahead w n) blk off d).heap.size := by simpa [Sort.ahead] using hblk
  refine ⟨?_, ?_⟩
  · unfold sortWorld
    rw [cell?_grow _ _ _ hlt, cell?_putRow_other _ _ _ _ _ _ (Or.inr (Or.inl hj))]
    rfl
  · unfold sortWorld
    rw [frozen?_grow _ _ _ hlt, frozen?_putRow]
    rfl

/-- slices.SortFunc(.., zzs5056ccmp), and what lies ahead of the part that is sorted. -/
theorem sort_low (blk off cap : Nat) (ks : List Key) (w : World) (hR : RowK w blk off ks) (hG : ∀ k ∈ ks, Good w blk k) (hblk : blk < w.heap.size) (hn : ks.length ≤ 1026) :
    Calls Ybaf.prog 5 #[.slice (some ⟨blk, off, none⟩) ks.length cap, .func (.func 6) #[] #[]] w fun e w' => e = .returned (.tuple #[]) ∧
      ∃ ks', ks'.Perm ks ∧ (∀ i j, i < j → j < ks'.length → 0 ≤ cmpI (ks'.getD j noKey).xs (ks'.getD i noKey).xs) ∧ RowK w' blk off ks' ∧ Upd [blk] w w' ∧ Low blk off w w' := by
  have inh : Inhabited (GoodKey w blk) := ⟨⟨noKey, good_default w blk⟩⟩
  let d : Array (GoodKey w blk) := (ks.pmap (fun k h => ⟨k, h⟩) hG).toArray
  have hd : d.size = ks.length := by simp [d]
  have hget : ∀ j, j < ks.length → (d[j]!).val = ks.getD j noKey := fun j hj => by
    have : d[j]! = d[j]'(by omega) := getElem!_pos d j (by omega)
    rw [this]
    simp [d, hj]
  have hH : Holds (fun k : GoodKey w blk => encK k.val) w blk off d := fun j hj => by
    have := hR j (by omega)
    show _ = some (encK (d[j]!).val) ∧ _
    rw [hget j (by omega)]; exact this
  have eg : ∀ args w, (callFunc 6 args).run Ybaf.prog w = .ok (.enter 6 args) w := enters_of Ybaf.func6 (by kernel_rfl) rfl
  have hcon := Any.slices_SortFunc Ybaf.sortK (fun k : GoodKey w blk => encK k.val) (fun _ => rfl) (fun x y => cmpI x.val.xs y.val.xs) (swoK fun x : GoodKey w blk => x.val.xs) 6 #[] blk off cap d w eg (cmpReads_k w blk off d.size).lays hH hblk (by omega)
  change Calls Ybaf.prog 5 _ _ _ at hcon
  rw [hd] at hcon
  refine hcon.mono ?_
  rintro e w' ⟨rfl, d', n, os, hp, hs, rfl⟩
  have hsz : d'.size = ks.length := hp.1.trans hd
  have hgd' : ∀ j, j < ks.length → (d'.toList.map Subtype.val).getD j noKey = (d'[j]!).val := fun j hj => by
    have : d'[j]! = d'[j]'(by omega) := getElem!_pos d' j (by omega)
    rw [this]
    simp [show j < d'.size by omega]
  refine ⟨rfl, d'.toList.map Subtype.val, ?_, ?_, ?_, upd_sortWorld _ _ _ _ _ _ _, low_sortWorld _ _ _ _ _ _ _ hblk⟩
  · have h1 := hp.2.2
    rw [← hsz] at h1
    have e1 : (d'.extract 0 d'.size).toList = d'.toList := by simp
    have e2 : (d.extract 0 d'.size).toList = d.toList := by rw [hsz, ← hd]; simp
    rw [e1, e2] at h1
    have h2 := h1.map Subtype.val
    refine h2.trans ?_
    rw [show d.toList.map Subtype.val = ks by simp [d, List.map_pmap]]
  · intro i j hij hj
    have hj' : j < ks.length := by simpa [hsz] using hj
    have := hs i j (Nat.zero_le _) hij hj'
    rw [hgd' j hj', hgd' i (by omega)]
    simpa [ltOf] using this
  · intro j hj
    have hj' : j < ks.length := by simpa [hsz] using hj
    have := holds_sortWorld (fun k : GoodKey w blk => encK k.val) w blk off n d d' os hblk hH hp.1 j (by omega)
    rw [hgd' j hj']; exact this
end Go.Proofs.YbulkczrmFmt
