import Derived.Test.YbulkczwiAttach
namespace Go.Proofs.Ybulkczwi
open Go.RowKit
open Go.ChangeMaps (setBlock)
set_option linter.unusedVariables false
set_option linter.unusedSimpArgs false

/-- A slice of uint16 that came in. -/
structure UIn (w : World) (p : Option Addr) (n : Nat) (xs : List Int) : Prop where
  len : xs.length = n
  at' : 0 < n → ∃ b o, p = some ⟨b, o, none⟩ ∧ ∀ j, j < n → w.cell? ⟨b, o + j, none⟩ = some (.int .u16 (xs.getD j 0))
  rng : ∀ x ∈ xs, 0 ≤ x ∧ x < 65536
theorem UIn.get {w : World} {p : Option Addr} {n : Nat} {xs : List Int} (h : UIn w p n xs) {j : Nat} (hj : j < n) : 0 ≤ xs.getD j 0 ∧ xs.getD j 0 < 65536 := by
  have hj' : j < xs.length := by rw [h.len]; exact hj
  have : xs.getD j 0 = xs[j] := by simp [hj']
  rw [this]
  exact h.rng _ (List.getElem_mem hj')
/-- What came in. -/
structure InL (w : World) (a0 : Option Addr) (n : Nat) (pp : Nat → Option Addr) (pn pc : Nat → Nat) (Pr : Nat → List Int) (a1 : Option Addr) (np : Nat) (pre : List Int) (a2 : Option Addr) (m : Nat) (Of : Nat → Nat) : Prop where
  img : 0 < n → ∃ b o, a0 = some ⟨b, o, none⟩ ∧ ∀ i, i < n → w.cell? ⟨b, o + i, none⟩ = some (.slice (pp i) (pn i) (pc i))
  pri : ∀ i, i < n → UIn w (pp i) (pn i) (Pr i)
  mx : ∀ i, i < n → pn i ≤ 9223372036854775807
  pre : UIn w a1 np pre
  ear : 0 < m → ∃ b o, a2 = some ⟨b, o, none⟩ ∧ ∀ e, e < m → w.cell? ⟨b, o + e * 2, none⟩ = some (.int .u16 (Of e))
  of : ∀ e, e < m → Of e < 65536

theorem cell_in {w W : World} {a : Addr} {v : Value} (hb : Below w.heap.size w W) (h : w.cell? a = some v) : W.cell? a = some v := by
  rw [hb.cell (World.block_lt_of_cell? _ _ h)]; exact h

/-- The images built so far. -/
structure B2 (w W : World) (τ : Nat → Nat) (cb pm i q : Nat) (vI : Value) (Pv : Nat → Value) (Pr : Nat → List Int) : Prop where
  cat : Blk W τ 2 cb (.cells #[vI, .map (some pm), .slice none 0 0] 31 (0, 0))
  pos : Blk W τ 3 pm (.map (posEs q) q)
  img : Has W τ 4 43 11 vI i (imgs i Pv)
  pri : ∀ j, j < i → Has W τ (100 + j) 40 9 (Pv j) (Pr j).length (descs (Pr j))
  frm : ∀ j, j < i → ∃ g c, Pv j = .slice (some ⟨g, 0, none⟩) (Pr j).length c
  bel : Below w.heap.size w W
  old : ∀ k, k < w.heap.size → τ k = 0
theorem B2.step {w W W' : World} {τ τ' : Nat → Nat} {t0 cb pm i q : Nat} {vI : Value} {Pv : Nat → Value} {Pr : Nat → List Int} (h : B2 w W τ cb pm i q vI Pv Pr) (s : Stp t0 W τ W' τ') (ht : t0 = 1 ∨ 100 + i ≤ t0) : B2 w W' τ' cb pm i q vI Pv Pr :=
  ⟨h.cat.step s (by omega), h.pos.step s (by omega), h.img.step s (by omega), fun j hj => (h.pri j hj).step s (by omega), h.frm, (s.below h.bel h.old (by omega)).1, (s.below h.bel h.old (by omega)).2⟩
theorem B2.below {w W W' : World} {τ : Nat → Nat} {cb pm i q : Nat} {vI : Value} {Pv : Nat → Value} {Pr : Nat → List Int} (h : B2 w W τ cb pm i q vI Pv Pr) (hb : Below W.heap.size W W') : B2 w W' τ cb pm i q vI Pv Pr := h.step (Stp.of_below hb 1 τ) (Or.inl rfl)
theorem B2.start (w : World) (Pr : Nat → List Int) : ∃ τ, B2 w ((w.alloc (.map #[] 0)).alloc (.cells #[.slice none 0 0, .map (some w.heap.size), .slice none 0 0] 31)) τ (w.heap.size + 1) w.heap.size 0 0 (.slice none 0 0) (fun _ => .slice none 0 0) Pr := by
  refine ⟨fun k => if k < w.heap.size then 0 else if k = w.heap.size then 3 else 2, ⟨?_, ?_⟩, ⟨?_, ?_⟩, Has.nil _ _ _ _ _, fun j hj => absurd hj (Nat.not_lt_zero _), fun j hj => absurd hj (Nat.not_lt_zero _), ?_, fun k hk => by simp [hk]⟩
  · have := heap_alloc_new (w.alloc (.map #[] 0)) (.cells #[.slice none 0 0, .map (some w.heap.size), .slice none 0 0] 31)
    simpa using this
  · simp
  · rw [heap_alloc_old _ _ (by simp), heap_alloc_new]; rfl
  · simp
  · exact ((Below.refl _ _).alloc (Nat.le_refl _) _).alloc (by simp) _
theorem B2.posd {w W : World} {τ : Nat → Nat} {cb pm i : Nat} {vI : Value} {Pv : Nat → Value} {Pr : Nat → List Int} (h : B2 w W τ cb pm i i vI Pv Pr) : B2 w (setBlock W pm (.map (posEs (i + 1)) (i + 1))) τ cb pm i (i + 1) vI Pv Pr := by
  have h3 : Stp 3 W τ (setBlock W pm (.map (posEs (i + 1)) (i + 1))) τ := by
    have := Stp.setBlock (W := W) (τ := τ) (b := pm) (.map (posEs (i + 1)) (i + 1))
    rw [h.pos.tag] at this
    exact this
  refine ⟨h.cat.step h3 (by omega), ⟨?_, h.pos.tag⟩, h.img.step h3 (by omega), fun j hj => (h.pri j hj).step h3 (by omega), h.frm, (h3.below h.bel h.old (by omega)).1, (h3.below h.bel h.old (by omega)).2⟩
  have := h.pos.lt
  simp [setBlock, this]
theorem imgs_succ (i : Nat) (Pv : Nat → Value) (v : Value) : imgs (i + 1) (put Pv i v) = imgs i Pv ++ imgCells i v := by
  unfold imgs
  rw [List.range_succ, List.flatMap_append]
  congr 1
  · rw [List.flatMap_def, List.flatMap_def]
    congr 1
    apply List.map_congr_left
    intro x hx
    have : x ≠ i := by have := List.mem_range.1 hx; omega
    simp [put, this]
  · simp [put]
theorem B2.image {w W W9 : World} {τ τ9 : Nat → Nat} {cb pm i g c L : Nat} {vI v' : Value} {Pv : Nat → Value} {Pr : Nat → List Int} (h : B2 w W τ cb pm i (i + 1) vI Pv Pr) (hL : (Pr i).length = L) (hp : Has W τ (100 + i) 40 9 (.slice (some ⟨g, 0, none⟩) L c) L (descs (Pr i)))
    (hA : Has W9 τ9 4 43 11 v' (i + 1) (imgs i Pv ++ imgCells i (.slice (some ⟨g, 0, none⟩) L c))) (hS : Stp 4 W τ W9 τ9) :
    B2 w (W9.setCell ⟨cb, 0, none⟩ v') τ9 cb pm (i + 1) (i + 1) v' (put Pv i (.slice (some ⟨g, 0, none⟩) L c)) Pr := by
  subst hL
  have hcat := h.cat.step hS (by omega)
  have h2 : Stp 2 W9 τ9 (W9.setCell ⟨cb, 0, none⟩ v') τ9 := by
    have := Stp.setCell (W := W9) (τ := τ9) ⟨cb, 0, none⟩ v'
    rw [show τ9 (⟨cb, 0, none⟩ : Addr).block = 2 from hcat.tag] at this
    exact this
  have hb1 := hS.below h.bel h.old (by omega)
  have hb2 := h2.below hb1.1 hb1.2 (by omega)
  refine ⟨hcat.setCell 0 v', (h.pos.step hS (by omega)).step h2 (by omega), ?_, fun j hj => ?_, fun j hj => ?_, hb2.1, hb2.2⟩
  · rw [imgs_succ]; exact hA.step h2 (by omega)
  · by_cases e : j = i
    · subst e
      have := (hp.step hS (by omega)).step h2 (by omega)
      simpa [Ybulkczwi.put] using this
    · have := ((h.pri j (by omega)).step hS (by omega)).step h2 (by omega)
      simpa [Ybulkczwi.put, e] using this
  · by_cases e : j = i
    · subst e; exact ⟨g, c, by simp [Ybulkczwi.put]⟩
    · have := h.frm j (by omega)
      simpa [Ybulkczwi.put, e] using this

/-- The catalog, its images whole. -/
structure B4 (w W : World) (τ : Nat → Nat) (cb pm n : Nat) (vI vU : Value) (Pv : Nat → Value) (Pr : Nat → List Int) (us : List Int) : Prop where
  cat : Blk W τ 2 cb (.cells #[vI, .map (some pm), vU] 31 (0, 0))
  pos : Blk W τ 3 pm (.map (posEs n) n)
  img : Has W τ 4 43 11 vI n (imgs n Pv)
  una : Has W τ 5 40 9 vU us.length (descs us)
  pri : ∀ j, j < n → Has W τ (100 + j) 40 9 (Pv j) (Pr j).length (descs (Pr j))
  frm : ∀ j, j < n → ∃ g c, Pv j = .slice (some ⟨g, 0, none⟩) (Pr j).length c
  bel : Below w.heap.size w W
  old : ∀ k, k < w.heap.size → τ k = 0
theorem B2.b4 {w W : World} {τ : Nat → Nat} {cb pm n : Nat} {vI : Value} {Pv : Nat → Value} {Pr : Nat → List Int} (h : B2 w W τ cb pm n n vI Pv Pr) : B4 w W τ cb pm n vI (.slice none 0 0) Pv Pr [] :=
  ⟨h.cat, h.pos, h.img, Has.nil _ _ _ _ _, h.pri, h.frm, h.bel, h.old⟩
theorem B4.step {w W W' : World} {τ τ' : Nat → Nat} {t0 cb pm n : Nat} {vI vU : Value} {Pv : Nat → Value} {Pr : Nat → List Int} {us : List Int} (h : B4 w W τ cb pm n vI vU Pv Pr us) (s : Stp t0 W τ W' τ') (ht : t0 = 1 ∨ t0 = 6 ∨ t0 = 7) : B4 w W' τ' cb pm n vI vU Pv Pr us :=
  ⟨h.cat.step s (by omega), h.pos.step s (by omega), h.img.step s (by omega), h.una.step s (by omega), fun j hj => (h.pri j hj).step s (by omega), h.frm, (s.below h.bel h.old (by omega)).1, (s.below h.bel h.old (by omega)).2⟩
theorem B4.more {w W W9 : World} {τ τ9 : Nat → Nat} {cb pm n L : Nat} {vI vU v' : Value} {Pv : Nat → Value} {Pr : Nat → List Int} {us us' : List Int} {d : Int} (h : B4 w W τ cb pm n vI vU Pv Pr us) (hu : us' = us ++ [d]) (hL : us.length = L) (hA : Has W9 τ9 5 40 9 v' (L + 1) (descs us ++ dCells d)) (hS : Stp 5 W τ W9 τ9) :
    B4 w (W9.setCell ⟨cb, 2, none⟩ v') τ9 cb pm n vI v' Pv Pr us' := by
  subst hu hL
  have hcat := h.cat.step hS (by omega)
  have h2 : Stp 2 W9 τ9 (W9.setCell ⟨cb, 2, none⟩ v') τ9 := by
    have := Stp.setCell (W := W9) (τ := τ9) ⟨cb, 2, none⟩ v'
    rw [show τ9 (⟨cb, 2, none⟩ : Addr).block = 2 from hcat.tag] at this
    exact this
  have hb1 := hS.below h.bel h.old (by omega)
  have hb2 := h2.below hb1.1 hb1.2 (by omega)
  refine ⟨hcat.setCell 2 v', (h.pos.step hS (by omega)).step h2 (by omega), (h.img.step hS (by omega)).step h2 (by omega), ?_, fun j hj => ((h.pri j hj).step hS (by omega)).step h2 (by omega), h.frm, hb2.1, hb2.2⟩
  rw [descs_append, descs_one, List.length_append]
  exact hA.step h2 (by omega)

/-- The keys of the first e. -/
def kpart (m : Nat) (key : Nat → Nat) (e : Nat) : List Value := (List.range m).map fun x => .int .i64 (if x < e then (key x : Int) else 0)
theorem kpart_all (m : Nat) (key : Nat → Nat) : kpart m key m = kcells m key := by
  unfold kpart kcells
  apply List.map_congr_left
  intro x hx
  rw [if_pos (List.mem_range.1 hx)]
theorem kpart_set {m e : Nat} (key : Nat → Nat) (he : e < m) : (kpart m key e).set e (.int .i64 (key e)) = kpart m key (e + 1) := by
  apply List.ext_getElem?
  intro q
  rw [List.getElem?_set]
  unfold kpart
  by_cases h : e = q
  · subst h
    rw [if_pos rfl, if_pos (by simp [he])]
    simp [he]
  · rw [if_neg h]
    by_cases hq : q < m
    · simp only [List.getElem?_map, List.getElem?_range hq, Option.map_some]
      by_cases h2 : q < e
      · rw [if_pos h2, if_pos (by omega)]
      · rw [if_neg h2, if_neg (by omega)]
    · simp [hq]
theorem mss_succ (e : Nat) (key : Nat → Nat) : mss (e + 1) key = mss e key ++ msCells e (key e) := by
  unfold mss
  rw [List.range_succ, List.flatMap_append]
  simp
/-- What the fifth loop keeps. -/
structure B5 (w W : World) (τ : Nat → Nat) (cb pm n m e gK gM cM : Nat) (vI vU : Value) (Pv : Nat → Value) (Pr : Nat → List Int) (us : List Int) (key : Nat → Nat) : Prop where
  b4 : B4 w W τ cb pm n vI vU Pv Pr us
  kys : Has W τ 6 3 1 (.slice (some ⟨gK, 0, none⟩) m m) m (kpart m key e)
  ms : Has W τ 7 49 11 (.slice (some ⟨gM, 0, none⟩) e cM) e (mss e key)
theorem B5.below {w W W' : World} {τ : Nat → Nat} {cb pm n m e gK gM cM : Nat} {vI vU : Value} {Pv : Nat → Value} {Pr : Nat → List Int} {us : List Int} {key : Nat → Nat} (h : B5 w W τ cb pm n m e gK gM cM vI vU Pv Pr us key) (hb : Below W.heap.size W W') : B5 w W' τ cb pm n m e gK gM cM vI vU Pv Pr us key :=
  ⟨h.b4.step (Stp.of_below hb 1 τ) (Or.inl rfl), h.kys.step (Stp.of_below hb 1 τ) (by omega), h.ms.step (Stp.of_below hb 1 τ) (by omega)⟩
theorem B5.keyed {w W : World} {τ : Nat → Nat} {cb pm n m e gK gM cM : Nat} {vI vU : Value} {Pv : Nat → Value} {Pr : Nat → List Int} {us : List Int} {key : Nat → Nat} (h : B5 w W τ cb pm n m e gK gM cM vI vU Pv Pr us key) (he : e < m) :
    B4 w (W.setCell ⟨gK, e, none⟩ (.int .i64 (key e))) τ cb pm n vI vU Pv Pr us ∧ Has (W.setCell ⟨gK, e, none⟩ (.int .i64 (key e))) τ 6 3 1 (.slice (some ⟨gK, 0, none⟩) m m) m (kpart m key (e + 1)) ∧ Has (W.setCell ⟨gK, e, none⟩ (.int .i64 (key e))) τ 7 49 11 (.slice (some ⟨gM, 0, none⟩) e cM) e (mss e key) := by
  have h6 : Stp 6 W τ (W.setCell ⟨gK, e, none⟩ (.int .i64 (key e))) τ := by
    have := Stp.setCell (W := W) (τ := τ) ⟨gK, e, none⟩ (.int .i64 (key e))
    rw [show τ (⟨gK, e, none⟩ : Addr).block = 6 from h.kys.tag gK rfl] at this
    exact this
  refine ⟨h.b4.step h6 (Or.inr (Or.inl rfl)), ⟨?_, h.kys.tag⟩, h.ms.step h6 (by omega)⟩
  have := (h.kys.own.stored e (.int .i64 (key e))).1
  rw [kpart_set key he] at this
  exact this
theorem B5.base {w W : World} {τ : Nat → Nat} {cb pm n m gK gM cM : Nat} {vI vU : Value} {Pv : Nat → Value} {Pr : Nat → List Int} {us : List Int} {key : Nat → Nat} (h : B5 w W τ cb pm n m m gK gM cM vI vU Pv Pr us key) : Base W τ cb pm gM cM n m vI vU (.slice (some ⟨gK, 0, none⟩) m m) key Pv Pv Pr us :=
  ⟨h.b4.cat, h.b4.pos, h.b4.img, h.b4.una, h.b4.pri, h.ms, by have := h.kys; rw [kpart_all] at this; exact this⟩

theorem own_form {W : World} {B : Nat} {e : TypeId} {sz : Nat} {v : Value} {n : Nat} {xs : List Value} (h : W.ownsRow B e sz v n xs) : ∃ ao c, v = .slice ao n c ∧ (0 < n → ∃ g, ao = some ⟨g, 0, none⟩) := by
  rcases h.2 with ⟨rfl, rfl⟩ | ⟨g, c, cur, rfl, _⟩
  · exact ⟨none, 0, rfl, fun h0 => absurd h0 (Nat.lt_irrefl _)⟩
  · exact ⟨some ⟨g, 0, none⟩, c, rfl, fun _ => ⟨g, rfl⟩⟩
theorem own_cell {W : World} {B : Nat} {e : TypeId} {sz g n c : Nat} {xs : List Value} (h : W.ownsRow B e sz (.slice (some ⟨g, 0, none⟩) n c) n xs) {j : Nat} {v : Value} (hj : xs[j]? = some v) : W.cell? ⟨g, j, none⟩ = some v := by
  have h' : W.ownsRow 0 e sz (.slice (some ⟨g, 0, none⟩) n c) n xs := by
    rcases h.2 with ⟨h1, _⟩ | ⟨g', cap, cur, hv, hb, hr⟩
    · cases h1
    · exact ⟨h.1, Or.inr ⟨g', cap, cur, hv, Nat.zero_le _, hr⟩⟩
  exact (Has.cell (τ := fun _ => 0) (t := 0) ⟨h', fun _ _ => rfl⟩ hj).1
theorem own_below {W W' : World} {B : Nat} {e : TypeId} {sz : Nat} {v : Value} {n : Nat} {xs : List Value} (h : W.ownsRow B e sz v n xs) (hb : Below W.heap.size W W') : W'.ownsRow B e sz v n xs := by
  rcases h.2 with h1 | ⟨g, c, cur, hv, hB, hg, hr⟩
  · exact ⟨h.1, Or.inl h1⟩
  · exact ⟨h.1, Or.inr ⟨g, c, cur, hv, hB, by rw [hb.block g (lt_of_block hg)]; exact hg, hr⟩⟩
theorem Fin.below {w W W' : World} {cb pm n m : Nat} {vI vU vK : Value} {key : Nat → Nat} {av : Nat → Value} {Pr : Nat → List Int} {us : List Int} (h : Fin w W cb pm n m vI vU vK key av Pr us) (hb : Below W.heap.size W W') : Fin w W' cb pm n m vI vU vK key av Pr us :=
  ⟨(hb.block cb (lt_of_block h.cat)).trans h.cat, (hb.block pm (lt_of_block h.pos)).trans h.pos, own_below h.img hb, own_below h.una hb, fun i hi => own_below (h.att i hi) hb, own_below h.kys hb, h.bel.trans (hb.mono h.bel.size)⟩
theorem Fin.cell {w W : World} {cb pm n m : Nat} {vI vU vK : Value} {key : Nat → Nat} {av : Nat → Value} {Pr : Nat → List Int} {us : List Int} (h : Fin w W cb pm n m vI vU vK key av Pr us) : W.cell? ⟨cb, 0, none⟩ = some vI ∧ W.cell? ⟨cb, 1, none⟩ = some (.map (some pm)) ∧ W.cell? ⟨cb, 2, none⟩ = some vU :=
  ⟨by rw [cell_of_row _ _ _ _ _ _ h.cat]; rfl, by rw [cell_of_row _ _ _ _ _ _ h.cat]; rfl, by rw [cell_of_row _ _ _ _ _ _ h.cat]; rfl⟩

theorem ear_get {key : Nat → Nat} {i x : Nat} (hk : key x = i) : ∀ e, x < e → (ear key i e)[(ear key i x).length]? = some (1000000 + (x : Int))
  | 0, h => absurd h (Nat.not_lt_zero _)
  | e + 1, h => by
    rw [ear_succ]
    by_cases hx : x < e
    · have ih := ear_get hk e hx
      have hl := (List.getElem?_eq_some_iff.1 ih).1
      split
      · rw [List.getElem?_append_left hl]; exact ih
      · exact ih
    · obtain rfl : x = e := by omega
      rw [if_pos hk, List.getElem?_append_right (Nat.le_refl _), Nat.sub_self]
      rfl
theorem ear2_get {key : Nat → Nat} {n x : Nat} (hk : n ≤ key x) : ∀ e, x < e → (ear2 key n e)[(ear2 key n x).length]? = some (1000000 + (x : Int))
  | 0, h => absurd h (Nat.not_lt_zero _)
  | e + 1, h => by
    rw [ear2_succ]
    by_cases hx : x < e
    · have ih := ear2_get hk e hx
      have hl := (List.getElem?_eq_some_iff.1 ih).1
      split
      · rw [List.getElem?_append_left hl]; exact ih
      · exact ih
    · obtain rfl : x = e := by omega
      rw [if_pos hk, List.getElem?_append_right (Nat.le_refl _), Nat.sub_self]
      rfl
/-- The nine cells of one descriptor of a row. -/
theorem desc_cells {W : World} {B g n c j : Nat} {us : List Int} {s : Int} (h : W.ownsRow B 40 9 (.slice (some ⟨g, 0, none⟩) n c) n (descs us)) (hj : us[j]? = some s) :
    W.cell? ⟨g, j * 9, none⟩ = some noStr ∧ W.cell? ⟨g, j * 9 + 1, none⟩ = some noStr ∧ W.cell? ⟨g, j * 9 + 2, none⟩ = some noStr ∧ W.cell? ⟨g, j * 9 + 3, none⟩ = some (.int .i64 s) ∧ W.cell? ⟨g, j * 9 + 4, none⟩ = some (.pointer none) ∧ W.cell? ⟨g, j * 9 + 5, none⟩ = some noStr ∧ W.cell? ⟨g, j * 9 + 6, none⟩ = some noStr ∧ W.cell? ⟨g, j * 9 + 7, none⟩ = some noStr ∧ W.cell? ⟨g, j * 9 + 8, none⟩ = some noStr := by
  have hx : ∀ b v, b < 9 → (dCells s)[b]? = some v → W.cell? ⟨g, j * 9 + b, none⟩ = some v := fun b v hb hv => by
    refine own_cell h ?_
    unfold descs
    rw [chunk_get _ 9 (fun x => rfl) _ _ _ hb, hj]
    exact hv
  exact ⟨hx 0 _ (by omega) rfl, hx 1 _ (by omega) rfl, hx 2 _ (by omega) rfl, hx 3 _ (by omega) rfl, hx 4 _ (by omega) rfl, hx 5 _ (by omega) rfl, hx 6 _ (by omega) rfl, hx 7 _ (by omega) rfl, hx 8 _ (by omega) rfl⟩
theorem Fin.key_cell {w W : World} {cb pm n m gK : Nat} {vI vU : Value} {key : Nat → Nat} {av : Nat → Value} {Pr : Nat → List Int} {us : List Int} (h : Fin w W cb pm n m vI vU (.slice (some ⟨gK, 0, none⟩) m m) key av Pr us) {x : Nat} (hx : x < m) : W.cell? ⟨gK, x, none⟩ = some (.int .i64 (key x)) :=
  own_cell h.kys (by unfold kcells; simp [hx])
end Go.Proofs.Ybulkczwi
