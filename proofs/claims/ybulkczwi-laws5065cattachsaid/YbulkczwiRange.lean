import Derived.Test.YbulkczwiSteps
namespace Go.Proofs.Ybulkczwi
open Go.RowKit
open Go.ChangeMaps (setBlock)
set_option linter.unusedVariables false
set_option linter.unusedSimpArgs false

/-- The second loop: D: the images that have got theirs; S: those whose entries have come. -/
structure L2 (w W : World) (τ : Nat → Nat) (cb pm gM cM n m bm it : Nat) (vI vU vK : Value) (key : Nat → Nat) (av Pv : Nat → Value) (Pr : Nat → List Int) (us : List Int) (ord : List Nat) (gv : Nat → Value) (D S : Nat → Bool) (seen : Array Nat) : Prop where
  base : Base W τ cb pm gM cM n m vI vU vK key av Pv Pr us
  map : Blk W τ 8 bm (.map (befEs ord gv) ord.length)
  iter : Blk W τ 9 it (.mapIter (some bm) ord.length seen ord.length)
  sn : ∀ j i, ord[j]? = some i → seen.contains j = S i
  nd : ord.Nodup
  mem : ∀ i, i ∈ ord ↔ i < n ∧ ∃ x, x < m ∧ key x = i
  todo : ∀ i, i ∈ ord → D i = false → Has W τ (1000 + i) 40 9 (gv i) (ear key i m).length (descs (ear key i m))
  done : ∀ i, D i = true → i ∈ ord ∧ Has W τ (1000 + i) 40 9 (av i) (ear key i m ++ Pr i).length (descs (ear key i m ++ Pr i))
  und : ∀ i, D i = false → av i = Pv i
  bel : Below w.heap.size w W
  old : ∀ k, k < w.heap.size → τ k = 0

theorem L2.step {w W W' : World} {τ τ' : Nat → Nat} {t0 cb pm gM cM n m bm it : Nat} {vI vU vK : Value} {key : Nat → Nat} {av Pv : Nat → Value} {Pr : Nat → List Int} {us : List Int} {ord : List Nat} {gv : Nat → Value} {D S : Nat → Bool} {seen : Array Nat} (h : L2 w W τ cb pm gM cM n m bm it vI vU vK key av Pv Pr us ord gv D S seen) (s : Stp t0 W τ W' τ') (ht : t0 = 1) (hn : n ≤ 300) : L2 w W' τ' cb pm gM cM n m bm it vI vU vK key av Pv Pr us ord gv D S seen :=
  ⟨h.base.step s (by omega) hn, h.map.step s (by omega), h.iter.step s (by omega), h.sn, h.nd, h.mem, fun i hi hd => (h.todo i hi hd).step s (by omega), fun i hd => ⟨(h.done i hd).1, (h.done i hd).2.step s (by omega)⟩, h.und, (s.below h.bel h.old (by omega)).1, (s.below h.bel h.old (by omega)).2⟩

theorem befEs_mem {ord : List Nat} {gv : Nat → Value} {en : MapEntry} (h : en ∈ (befEs ord gv).toList) : ∃ j i, ord[j]? = some i ∧ en = befAt gv j i := by
  simp only [befEs, List.mem_mapIdx] at h
  obtain ⟨j, hj, rfl⟩ := h
  exact ⟨j, ord[j], List.getElem?_eq_getElem hj, rfl⟩
theorem befEs_born (ord : List Nat) (gv : Nat → Value) : ((befEs ord gv).toList.map (·.born)).Nodup := by
  have : (befEs ord gv).toList.map (·.born) = List.range ord.length := by
    apply List.ext_getElem?
    intro q
    simp only [befEs, List.getElem?_map, List.getElem?_mapIdx]
    by_cases h : q < ord.length
    · simp [h, befAt]
    · simp [h]
  rw [this]; exact List.nodup_range
theorem befEs_lt {ord : List Nat} {gv : Nat → Value} : ∀ x ∈ (befEs ord gv).toList, x.born < ord.length := fun x hx => by
  obtain ⟨j, i, hj, rfl⟩ := befEs_mem hx
  exact (List.getElem?_eq_some_iff.1 hj).1

/-- 'next': nothing is left, or the entry of an image that has not got its own yet. -/
theorem L2.next {w W : World} {τ : Nat → Nat} {cb pm gM cM n m bm it : Nat} {vI vU vK : Value} {key : Nat → Nat} {av Pv : Nat → Value} {Pr : Nat → List Int} {us : List Int} {ord : List Nat} {gv : Nat → Value} {D : Nat → Bool} {seen : Array Nat} (h : L2 w W τ cb pm gM cM n m bm it vI vU vK key av Pv Pr us ord gv D D seen) (hn : n ≤ 300) (ty : TypeId) :
    ((Instr.next (.pointer (some ⟨it, 0, none⟩)) false ty).run Yba.prog W = .ok (.tuple #[.bool false]) W ∧ ∀ i ∈ ord, D i = true) ∨
    ∃ j i W', ord[j]? = some i ∧ D i = false ∧ (Instr.next (.pointer (some ⟨it, 0, none⟩)) false ty).run Yba.prog W = .ok (.tuple #[.bool true, .int .i64 i, gv i]) W' ∧
      (Instr.entry (.pointer (some ⟨it, 0, none⟩))).run Yba.prog W' = .ok (.tuple #[.int .i64 i, gv i]) W' ∧
      L2 w W' τ cb pm gM cM n m bm it vI vU vK key av Pv Pr us ord gv D (fun x => D x || x == i) (seen.push j) := by
  rcases run_next_at (P := Yba.prog) W ty it bm ord.length ord.length seen (befEs ord gv) ord.length h.iter.at' h.map.at' befEs_lt (Nat.le_refl _) with ⟨h0, hr⟩ | ⟨en, hen, W1, hW1, hr⟩
  · refine Or.inl ⟨hr, fun i hi => ?_⟩
    obtain ⟨j, hj, rfl⟩ := List.getElem_of_mem hi
    have hg := List.getElem?_eq_getElem hj
    rw [← h.sn j _ hg]
    cases hc : seen.contains j with
    | true => rfl
    | false =>
      exfalso
      have hmem : befAt gv j ord[j] ∈ (leftOf (befEs ord gv) seen).toList := by
        unfold leftOf
        rw [Array.toList_filter, List.mem_filter]
        refine ⟨?_, by show (!seen.contains j) = true; rw [hc]; rfl⟩
        simp only [befEs, List.mem_mapIdx]
        exact ⟨j, hj, rfl⟩
      have := List.length_pos_of_mem hmem
      rw [Array.length_toList] at this
      omega
  · right
    unfold leftOf at hen
    rw [Array.toList_filter, List.mem_filter] at hen
    obtain ⟨hin, hns⟩ := hen
    obtain ⟨j, i, hj, rfl⟩ := befEs_mem hin
    have hns' : seen.contains j = false := by
      have : (!seen.contains j) = true := hns
      simpa using this
    have hD : D i = false := by rw [← h.sn j i hj]; exact hns'
    have hs1 : L2 w W1 τ cb pm gM cM n m bm it vI vU vK key av Pv Pr us ord gv D D seen := by
      rcases hW1 with rfl | rfl
      · exact h
      · exact h.step (Stp.drewN 1 τ 1) rfl hn
    have h9 : Stp 9 W1 τ (setBlock W1 it (.mapIter (some bm) ord.length (seen.push j) ord.length)) τ := by
      have := Stp.setBlock (W := W1) (τ := τ) (b := it) (.mapIter (some bm) ord.length (seen.push j) ord.length)
      rw [hs1.iter.tag] at this
      exact this
    have hit : (setBlock W1 it (.mapIter (some bm) ord.length (seen.push j) ord.length)).heap[it]? = some (.mapIter (some bm) ord.length (seen.push j) ord.length) := by
      have := hs1.iter.lt
      simp [setBlock, this]
    have hmap := hs1.map.step h9 (by omega)
    refine ⟨j, i, _, hj, hD, hr, ?_, ⟨?_, hmap, ⟨hit, hs1.iter.tag⟩, fun q x hq => ?_, hs1.nd, hs1.mem, fun x hx hd => (hs1.todo x hx hd).step h9 (by omega), fun x hd => ⟨(hs1.done x hd).1, (hs1.done x hd).2.step h9 (by omega)⟩, hs1.und, (h9.below hs1.bel hs1.old (by omega)).1, (h9.below hs1.bel hs1.old (by omega)).2⟩⟩
    · exact run_entry_at (P := Yba.prog) _ it bm ord.length seen (befEs ord gv) ord.length (befAt gv j i) hit hmap.at' hin (befEs_born ord gv)
    · exact hs1.base.step h9 (by omega) hn
    · rw [Array.contains_push, h.sn q x hq]
      congr 1
      by_cases e : q = j
      · subst e
        rw [hj] at hq
        obtain rfl := Option.some.inj hq
        simp
      · have hxi : x ≠ i := fun e' => by
          subst e'
          exact e ((List.getElem?_inj (List.getElem?_eq_some_iff.1 hq).1 h.nd).1 (hq.trans hj.symm))
        have h1 : (x == i) = false := by simpa using hxi
        have h2 : (q == j) = false := by simpa using e
        simp only [h1, h2]
theorem imgs_len (n : Nat) (av : Nat → Value) : (imgs n av).length = n * 11 := by
  unfold imgs
  rw [chunk_len _ 11 (fun x => rfl)]
  simp
theorem imgs_get {n i j : Nat} (av : Nat → Value) (hi : i < n) (hj : j < 11) : (imgs n av)[i * 11 + j]? = (imgCells i (av i))[j]? := by
  unfold imgs
  rw [chunk_get _ 11 (fun x => rfl) _ _ _ hj]
  simp [hi]
theorem imgs_set {n i : Nat} (av : Nat → Value) (hi : i < n) (v : Value) : (imgs n av).set (i * 11 + 10) v = imgs n (put av i v) := by
  apply List.ext_getElem?
  intro q
  rw [List.getElem?_set]
  by_cases hq : q < n * 11
  · obtain ⟨a, b, hb, rfl⟩ : ∃ a b, b < 11 ∧ q = a * 11 + b := ⟨q / 11, q % 11, Nat.mod_lt _ (by omega), by omega⟩
    have ha : a < n := by omega
    rw [imgs_get av ha hb, imgs_get (put av i v) ha hb]
    by_cases e : i * 11 + 10 = a * 11 + b
    · have h1 : a = i := by omega
      have h2 : b = 10 := by omega
      subst h1 h2
      rw [if_pos e, if_pos (by rw [imgs_len]; omega)]
      simp [put]
    · rw [if_neg e]
      by_cases h1 : a = i
      · subst h1
        have h2 : b ≠ 10 := by omega
        have : b = 0 ∨ b = 1 ∨ b = 2 ∨ b = 3 ∨ b = 4 ∨ b = 5 ∨ b = 6 ∨ b = 7 ∨ b = 8 ∨ b = 9 := by omega
        rcases this with rfl | rfl | rfl | rfl | rfl | rfl | rfl | rfl | rfl | rfl <;> rfl
      · simp [put, h1]
  · rw [if_neg (by omega), List.getElem?_eq_none (by rw [imgs_len]; omega), List.getElem?_eq_none (by rw [imgs_len]; omega)]

/-- how many are still to come -/
def todoN (ord : List Nat) (D : Nat → Bool) : Nat := (ord.filter fun x => !D x).length
theorem todoN_cons (a : Nat) (l : List Nat) (D : Nat → Bool) : todoN (a :: l) D = (if D a = true then 0 else 1) + todoN l D := by
  unfold todoN
  rw [List.filter_cons]
  cases h : D a <;> simp <;> omega
theorem todoN_le (l : List Nat) (D E : Nat → Bool) (h : ∀ x, D x = true → E x = true) : todoN l E ≤ todoN l D := by
  induction l with
  | nil => exact Nat.le_refl _
  | cons a l ih =>
    rw [todoN_cons, todoN_cons]
    by_cases hd : D a = true
    · rw [if_pos hd, if_pos (h a hd)]; omega
    · rw [if_neg hd]; split <;> omega
theorem todoN_lt {ord : List Nat} {D : Nat → Bool} {i : Nat} (hi : i ∈ ord) (hd : D i = false) : todoN ord (fun x => D x || x == i) < todoN ord D := by
  induction ord with
  | nil => cases hi
  | cons a l ih =>
    have hle := todoN_le l D (fun x => D x || x == i) (fun x hx => by simp [hx])
    rw [todoN_cons, todoN_cons]
    by_cases e : a = i
    · subst e
      rw [if_pos (by simp), if_neg (by simp [hd])]; omega
    · have hil : i ∈ l := by
        rcases List.mem_cons.1 hi with h | h
        · exact absurd h.symm e
        · exact h
      have := ih hil
      by_cases hda : D a = true
      · rw [if_pos (by simp [hda]), if_pos hda]; omega
      · rw [if_neg (by simp [hda, e]), if_neg hda]; omega

/-- An image gets its own. -/
theorem L2.got {w W W9 : World} {τ τ9 : Nat → Nat} {cb pm gM cM n m bm it i gI cI : Nat} {vU vK v' : Value} {key : Nat → Nat} {av Pv : Nat → Value} {Pr : Nat → List Int} {us : List Int} {ord : List Nat} {gv : Nat → Value} {D : Nat → Bool} {seen : Array Nat} (h : L2 w W τ cb pm gM cM n m bm it (.slice (some ⟨gI, 0, none⟩) n cI) vU vK key av Pv Pr us ord gv D (fun x => D x || x == i) seen) (hn : n ≤ 300) (hi : i ∈ ord)
    (hA : Has W9 τ9 (1000 + i) 40 9 v' ((ear key i m).length + (Pr i).length) (descs (ear key i m) ++ descs (Pr i))) (hS : Stp (1000 + i) W τ W9 τ9) :
    L2 w (W9.setCell ⟨gI, i * 11 + 10, none⟩ v') τ9 cb pm gM cM n m bm it (.slice (some ⟨gI, 0, none⟩) n cI) vU vK key (put av i v') Pv Pr us ord gv (fun x => D x || x == i) (fun x => D x || x == i) seen := by
  have hin := ((h.mem i).1 hi).1
  have hb9 := h.base.step hS (by omega) hn
  have h4 : Stp 4 W9 τ9 (W9.setCell ⟨gI, i * 11 + 10, none⟩ v') τ9 := by
    have := Stp.setCell (W := W9) (τ := τ9) ⟨gI, i * 11 + 10, none⟩ v'
    rw [show τ9 (⟨gI, i * 11 + 10, none⟩ : Addr).block = 4 from hb9.img.tag gI rfl] at this
    exact this
  have hbl := hS.below h.bel h.old (by omega)
  have hbl2 := h4.below hbl.1 hbl.2 (by omega)
  refine ⟨⟨hb9.cat.step h4 (by omega), hb9.pos.step h4 (by omega), ⟨?_, hb9.img.tag⟩, hb9.una.step h4 (by omega), fun x hx => (hb9.pri x hx).step h4 (by omega), hb9.ms.step h4 (by omega), hb9.kys.step h4 (by omega)⟩, (h.map.step hS (by omega)).step h4 (by omega), (h.iter.step hS (by omega)).step h4 (by omega), h.sn, h.nd, h.mem, fun x hx hd => ?_, fun x hd => ?_, fun x hd => ?_, hbl2.1, hbl2.2⟩
  · have := (hb9.img.own.stored (i * 11 + 10) v').1
    rw [imgs_set av hin] at this
    exact this
  · have hd' : D x = false ∧ x ≠ i := by
      cases hdx : D x <;> simp_all
    have hxn := ((h.mem x).1 hx).1
    exact ((h.todo x hx hd'.1).step hS (by omega)).step h4 (by omega)
  · by_cases e : x = i
    · subst e
      refine ⟨hi, ?_⟩
      have := hA.step h4 (by omega)
      rw [List.length_append, descs_append]
      simpa [put] using this
    · have hdx : D x = true := by
        have hxe : (x == i) = false := by simpa using e
        simpa [hxe] using hd
      have hx := h.done x hdx
      have hxn := ((h.mem x).1 hx.1).1
      refine ⟨hx.1, ?_⟩
      have := (hx.2.step hS (by omega)).step h4 (by omega)
      simpa [put, e] using this
  · have hd' : D x = false ∧ x ≠ i := by
      cases hdx : D x <;> simp_all
    simp [put, hd'.2, h.und x hd'.1]
end Go.Proofs.Ybulkczwi
