import Derived.Test.YbulkczwiRange
import Derived.Deep.RegionLaw
import Derived.Deep.LoopGhost
namespace Go.Proofs.Ybulkczwi
open Go.RowKit
open Go.ChangeMaps (setBlock)
set_option linter.unusedVariables false
set_option linter.unusedSimpArgs false

/-- What attachEarly leaves. -/
structure Fin (w W : World) (cb pm n m : Nat) (vI vU vK : Value) (key : Nat → Nat) (av : Nat → Value) (Pr : Nat → List Int) (us : List Int) : Prop where
  cat : W.heap[cb]? = some (.cells #[vI, .map (some pm), vU] 31 (0, 0))
  pos : W.heap[pm]? = some (.map (posEs n) n)
  img : W.ownsRow 0 43 11 vI n (imgs n av)
  una : W.ownsRow 0 40 9 vU us.length (descs us)
  att : ∀ i, i < n → W.ownsRow 0 40 9 (av i) (ear key i m ++ Pr i).length (descs (ear key i m ++ Pr i))
  kys : W.ownsRow 0 3 1 vK m (kcells m key)
  bel : Below w.heap.size w W

theorem L2.fin {w W : World} {τ : Nat → Nat} {cb pm gM cM n m bm it : Nat} {vI vU vK : Value} {key : Nat → Nat} {av Pv : Nat → Value} {Pr : Nat → List Int} {us : List Int} {ord : List Nat} {gv : Nat → Value} {D S : Nat → Bool} {seen : Array Nat} (h : L2 w W τ cb pm gM cM n m bm it vI vU vK key av Pv Pr us ord gv D S seen) (hd : ∀ i ∈ ord, D i = true) : Fin w W cb pm n m vI vU vK key av Pr us := by
  refine ⟨h.base.cat.at', h.base.pos.at', h.base.img.own, h.base.una.own, fun i hi => ?_, h.base.kys.own, h.bel⟩
  by_cases hm : i ∈ ord
  · exact (h.done i (hd i hm)).2.own
  · have hD : D i = false := by
      cases hc : D i with
      | false => rfl
      | true => exact absurd (h.done i hc).1 hm
    have he : ear key i m = [] := by
      unfold ear
      rw [List.map_eq_nil_iff, List.filter_eq_nil_iff]
      intro x hx
      have : ¬ key x = i := fun e => hm ((h.mem i).2 ⟨hi, x, List.mem_range.1 hx, e⟩)
      simpa using this
    rw [h.und i hD, he]
    exact (h.base.pri i hi).own

/-- What the attaching loop keeps. -/
structure L1 (w W : World) (τ : Nat → Nat) (cb pm gM cM n m bm e : Nat) (vI vU vK : Value) (key : Nat → Nat) (Pv : Nat → Value) (Pr : Nat → List Int) (pre : List Int) (ord : List Nat) (gv : Nat → Value) : Prop where
  base : Base W τ cb pm gM cM n m vI vU vK key Pv Pv Pr (pre ++ ear2 key n e)
  grp : Grp W τ bm n e ord gv key
  bel : Below w.heap.size w W
  old : ∀ k, k < w.heap.size → τ k = 0

theorem L1.step {w W W' : World} {τ τ' : Nat → Nat} {t0 cb pm gM cM n m bm e : Nat} {vI vU vK : Value} {key : Nat → Nat} {Pv : Nat → Value} {Pr : Nat → List Int} {pre : List Int} {ord : List Nat} {gv : Nat → Value} (h : L1 w W τ cb pm gM cM n m bm e vI vU vK key Pv Pr pre ord gv) (s : Stp t0 W τ W' τ') (ht : t0 = 1 ∨ (8 < t0 ∧ t0 < 100)) (hn : n ≤ 300) : L1 w W' τ' cb pm gM cM n m bm e vI vU vK key Pv Pr pre ord gv :=
  ⟨h.base.step s (by omega) hn, h.grp.step s (by omega), (s.below h.bel h.old (by omega)).1, (s.below h.bel h.old (by omega)).2⟩

theorem L1.una {w W W9 : World} {τ τ9 : Nat → Nat} {cb pm gM cM n m bm e : Nat} {vI vU v' vK : Value} {key : Nat → Nat} {Pv : Nat → Value} {Pr : Nat → List Int} {pre : List Int} {ord : List Nat} {gv : Nat → Value} (h : L1 w W τ cb pm gM cM n m bm e vI vU vK key Pv Pr pre ord gv) (hn : n ≤ 300) (hk : n ≤ key e)
    (hA : Has W9 τ9 5 40 9 v' ((pre ++ ear2 key n e).length + 1) (descs (pre ++ ear2 key n e) ++ dCells (1000000 + (e : Int)))) (hS : Stp 5 W τ W9 τ9) :
    L1 w (W9.setCell ⟨cb, 2, none⟩ v') τ9 cb pm gM cM n m bm (e + 1) vI v' vK key Pv Pr pre ord gv := by
  have hcat := h.base.cat.step hS (by omega)
  have h2 : Stp 2 W9 τ9 (W9.setCell ⟨cb, 2, none⟩ v') τ9 := by
    have := Stp.setCell (W := W9) (τ := τ9) ⟨cb, 2, none⟩ v'
    rw [show τ9 (⟨cb, 2, none⟩ : Addr).block = 2 from hcat.tag] at this
    exact this
  have hb1 := hS.below h.bel h.old (by omega)
  have hb2 := h2.below hb1.1 hb1.2 (by omega)
  have he2 : ear2 key n (e + 1) = ear2 key n e ++ [1000000 + (e : Int)] := by rw [ear2_succ, if_pos hk]
  refine ⟨⟨hcat.setCell 2 v', (h.base.pos.step hS (by omega)).step h2 (by omega), (h.base.img.step hS (by omega)).step h2 (by omega), ?_, fun i hi => ((h.base.pri i hi).step hS (by omega)).step h2 (by omega), (h.base.ms.step hS (by omega)).step h2 (by omega), (h.base.kys.step hS (by omega)).step h2 (by omega)⟩, ?_, hb2.1, hb2.2⟩
  · have := hA.step h2 (by omega)
    rw [he2, ← List.append_assoc, descs_append, descs_one, List.length_append]
    exact this
  · have g := (h.grp.step hS (by omega)).step h2 (by omega)
    refine ⟨g.map, g.nd, fun i => ?_, fun i hi => ?_⟩
    · rw [g.mem i]
      refine ⟨fun ⟨h1, x, hx, hxi⟩ => ⟨h1, x, by omega, hxi⟩, fun ⟨h1, x, hx, hxi⟩ => ⟨h1, x, ?_, hxi⟩⟩
      rcases Nat.lt_or_ge x e with h' | h'
      · exact h'
      · obtain rfl : x = e := by omega
        omega
    · have hin := ((g.mem i).1 hi).1
      have : ear key i (e + 1) = ear key i e := by rw [ear_succ, if_neg (by omega)]
      rw [this]
      exact g.own i hi

theorem L1.grp_next {w W W9 : World} {τ τ9 : Nat → Nat} {cb pm gM cM n m bm e i : Nat} {vI vU v' vK : Value} {key : Nat → Nat} {Pv : Nat → Value} {Pr : Nat → List Int} {pre : List Int} {ord ord' : List Nat} {gv : Nat → Value} (h : L1 w W τ cb pm gM cM n m bm e vI vU vK key Pv Pr pre ord gv) (hn : n ≤ 300) (hi : i < n) (hk : key e = i)
    (hA : Has W9 τ9 (1000 + i) 40 9 v' ((ear key i e).length + 1) (descs (ear key i e) ++ dCells (1000000 + (e : Int)))) (hS : Stp (1000 + i) W τ W9 τ9) (hord : (i ∈ ord ∧ ord' = ord) ∨ (i ∉ ord ∧ ord' = ord ++ [i])) :
    L1 w (setBlock W9 bm (.map (befEs ord' (put gv i v')) ord'.length)) τ9 cb pm gM cM n m bm (e + 1) vI vU vK key Pv Pr pre ord' (put gv i v') := by
  have hm0 := h.grp.map.step hS (by omega)
  have h8 : Stp 8 W9 τ9 (setBlock W9 bm (.map (befEs ord' (put gv i v')) ord'.length)) τ9 := by
    have := Stp.setBlock (W := W9) (τ := τ9) (b := bm) (.map (befEs ord' (put gv i v')) ord'.length)
    rw [hm0.tag] at this
    exact this
  have hb1 := hS.below h.bel h.old (by omega)
  have hb2 := h8.below hb1.1 hb1.2 (by omega)
  have he2 : ear2 key n (e + 1) = ear2 key n e := by rw [ear2_succ, if_neg (by omega)]
  have hmem : ∀ x, x ∈ ord' ↔ x ∈ ord ∨ x = i := fun x => by
    rcases hord with ⟨h1, rfl⟩ | ⟨h1, rfl⟩
    · exact ⟨Or.inl, fun h' => h'.elim id (fun e => e ▸ h1)⟩
    · simp
  refine ⟨?_, ⟨⟨?_, hm0.tag⟩, ?_, fun x => ?_, fun x hx => ?_⟩, hb2.1, hb2.2⟩
  · rw [he2]
    exact (h.base.step hS (by omega) hn).step h8 (by omega) hn
  · have hlt := hm0.lt
    simp [setBlock, hlt]
  · rcases hord with ⟨h1, rfl⟩ | ⟨h1, rfl⟩
    · exact h.grp.nd
    · exact List.nodup_append.2 ⟨h.grp.nd, by simp, fun a ha b hb => by
        rw [List.mem_singleton.1 hb]; exact fun e => h1 (e ▸ ha)⟩
  · rw [hmem, h.grp.mem]
    constructor
    · rintro (⟨h1, y, hy, hyx⟩ | rfl)
      · exact ⟨h1, y, by omega, hyx⟩
      · exact ⟨hi, e, by omega, hk⟩
    · rintro ⟨h1, y, hy, hyx⟩
      rcases Nat.lt_or_ge y e with h' | h'
      · exact Or.inl ⟨h1, y, h', hyx⟩
      · obtain rfl : y = e := by omega
        exact Or.inr (by omega)
  · by_cases hxi : x = i
    · subst hxi
      rw [ear_succ, if_pos hk, List.length_append, descs_append, descs_one]
      have := hA.step h8 (by omega)
      simpa [put] using this
    · have hx' : x ∈ ord := ((hmem x).1 hx).resolve_right hxi
      rw [ear_succ, if_neg (by omega)]
      have := ((h.grp.own x hx').step hS (by omega)).step h8 (by omega)
      simpa [put, hxi] using this



theorem ear_len (key : Nat → Nat) (i e : Nat) : (ear key i e).length ≤ e := by
  unfold ear
  rw [List.length_map]
  exact Nat.le_trans (List.length_filter_le _ _) (by simp)
theorem ear2_len (key : Nat → Nat) (n e : Nat) : (ear2 key n e).length ≤ e := by
  unfold ear2
  rw [List.length_map]
  exact Nat.le_trans (List.length_filter_le _ _) (by simp)
theorem ear_pos {key : Nat → Nat} {i e : Nat} (h : ∃ x, x < e ∧ key x = i) : 0 < (ear key i e).length := by
  obtain ⟨x, hx, hk⟩ := h
  unfold ear
  rw [List.length_map]
  exact List.length_pos_of_mem (a := x) (List.mem_filter.2 ⟨List.mem_range.2 hx, by simp [hk]⟩)
theorem ear_none {key : Nat → Nat} {i e : Nat} (h : ∀ x, x < e → key x = i → False) : ear key i e = [] := by
  unfold ear
  rw [List.map_eq_nil_iff, List.filter_eq_nil_iff]
  intro x hx
  have := h x (List.mem_range.1 hx)
  simpa using this
theorem bef_put_new' {w : World} {b i : Nat} {ord : List Nat} {gv : Nat → Value} (hb : w.heap[b]? = some (.map (befEs ord gv) ord.length)) (hs : ∀ i ∈ ord, i ≤ 1000) (hd : ord.Nodup) (hi : i ∉ ord) (hi' : i ≤ 1000) (v : Value) :
    (Instr.mapUpdate 56 (.map (some b)) (.int .i64 i) v).run Yba.prog w = .ok () (setBlock w b (.map (befEs (ord ++ [i]) (put gv i v)) (ord ++ [i]).length)) := by
  have := bef_put_new hb hs hd hi hi' v
  rw [show ord.length + 1 = (ord ++ [i]).length by simp] at this
  exact this
theorem gotKeep {W W9 : World} {τ τ9 : Nat → Nat} {cb gI cI n i pm : Nat} {vU v' : Value} {xs : List Value} {q : Nat} {av : Nat → Value} (HN : Hid (Has W9 τ9 (1000 + i) 40 9 v' q xs ∧ Stp (1000 + i) W τ W9 τ9)) (hc : Blk W τ 2 cb (.cells #[.slice (some ⟨gI, 0, none⟩) n cI, .map (some pm), vU] 31 (0, 0))) (hI : Has W τ 4 43 11 (.slice (some ⟨gI, 0, none⟩) n cI) n (imgs n av)) (hi : i < n) :
    W9.cell? ⟨cb, 0, none⟩ = some (.slice (some ⟨gI, 0, none⟩) n cI) ∧ W9.cell? ⟨gI, i * 11 + 10, none⟩ = some (av i) ∧ W9.frozen? ⟨gI, i * 11 + 10, none⟩ = false :=
  ⟨((hc.step HN.out.2 (by omega)).cell rfl).1, (hI.step HN.out.2 (by omega)).cell (by rw [imgs_get av hi (by omega)]; rfl)⟩
theorem hid {p : Prop} (h : p) : Hid p := h
/-- what the store behind an append to unattached asks -/
theorem unaKeep {W W9 : World} {τ τ9 : Nat → Nat} {cb tb : Nat} {vI vU v' : Value} {pm : Nat} {xs : List Value} {n : Nat} {ys : List Value} (HN : Hid (Has W9 τ9 5 40 9 v' n xs ∧ Stp 5 W τ W9 τ9)) (hc : Blk W τ 2 cb (.cells #[vI, .map (some pm), vU] 31 (0, 0))) (ht : Blk W τ 1 tb (.cells ys.toArray 49 (0, 0))) :
    (W9.cell? ⟨cb, 2, none⟩ = some vU ∧ W9.frozen? ⟨cb, 2, none⟩ = false) ∧ ∀ j v, ys[j]? = some v → W9.cell? ⟨tb, j, none⟩ = some v :=
  ⟨(hc.step HN.out.2 (by omega)).cell rfl, fun j v hj => ((ht.step HN.out.2 (by omega)).cell (by simpa using hj)).1⟩

set_option maxRecDepth 20000 in
set_option maxHeartbeats 2000000 in
theorem attach_core (w W W1 : World) (τ : Nat → Nat) (cb pm gM cM n m bm : Nat) (vI vU vK : Value) (key : Nat → Nat) (Pv : Nat → Value) (Pr : Nat → List Int) (pre : List Int)
    (HB : Hid (L1 w W1 τ cb pm gM cM n m bm 0 vI vU vK key Pv Pr pre [] (fun _ => .slice none 0 0))) (hmk : (Instr.makeMap 56 none).run Yba.prog W = .ok (.map (some bm)) W1) (hn : n ≤ 300) (hm : m ≤ 1024) (hp : pre.length ≤ 1024) (HK : Hid (∀ e, e < m → key e < n + 3)) (HP : Hid (∀ i, i < n → (Pr i).length ≤ 1024 ∧ ∃ g c, Pv i = .slice (some ⟨g, 0, none⟩) (Pr i).length c)) :
    Calls Yba.prog 5 #[.pointer (some ⟨cb, 0, none⟩), .slice (some ⟨gM, 0, none⟩) m cM] W fun e w' => e = .returned (.tuple #[]) ∧ ∃ vU' av, Hid (Fin w w' cb pm n m vI vU' vK key av Pr (pre ++ ear2 key n m)) := by
  go_enter Yba.func5, Yba.ntmps5
  go_wp2
  clear hmk
  go_loopw [14] (fun i wr => ∃ e : Nat, e ≤ m ∧ i = .int .i64 e ∧ Hid (∃ τ vU ord gv, L1 w wr τ cb pm gM cM n m bm e vI vU vK key Pv Pr pre ord gv)) (fun i _ => m - (intOf i).toNat)
  case atStart => exact ⟨0, Nat.zero_le _, rfl, _, _, _, _, HB.out⟩
  case round =>
    obtain ⟨e, he, rfl, HI⟩ := hrel
    by_cases hlt : e < m
    · obtain ⟨τ1, vU1, ord, gv, HL⟩ := HI.out
      have hx : ∀ j, j < 11 → wr.cell? ⟨gM, e * 11 + j, none⟩ = (msCells e (key e))[j]? := fun j hj => by
        have h1 : (mss m key)[e * 11 + j]? = (msCells e (key e))[j]? := by
          unfold mss
          rw [chunk_get _ 11 (fun x => rfl) _ _ _ hj]
          simp [hlt]
        obtain ⟨v, hv⟩ : ∃ v, (msCells e (key e))[j]? = some v := ⟨_, List.getElem?_eq_getElem (by show j < 11; exact hj)⟩
        rw [hv] at h1 ⊢
        exact (HL.base.ms.cell h1).1
      have h0 := hx 0 (by omega)
      have h1 := hx 1 (by omega)
      have h2 := hx 2 (by omega)
      have h3 := hx 3 (by omega)
      have h4 := hx 4 (by omega)
      have h5 := hx 5 (by omega)
      have h6 := hx 6 (by omega)
      have h7 := hx 7 (by omega)
      have h8 := hx 8 (by omega)
      have h9 := hx 9 (by omega)
      have h10 := hx 10 (by omega)
      simp only [msCells, List.getElem?_cons_zero, List.getElem?_cons_succ, Nat.add_zero] at h0 h1 h2 h3 h4 h5 h6 h7 h8 h9 h10
      obtain ⟨k, hk⟩ : ∃ k, key e = k := ⟨_, rfl⟩
      rw [hk] at h10
      obtain ⟨W2, hW2⟩ : ∃ W2, W2 = wr.alloc (.cells (msCells e k).toArray 49) := ⟨_, rfl⟩
      have H2 : Hid (L1 w W2 (mark τ1 wr.heap.size 1) cb pm gM cM n m bm e vI vU1 vK key Pv Pr pre ord gv ∧ Blk W2 (mark τ1 wr.heap.size 1) 1 wr.heap.size (.cells (msCells e k).toArray 49 (0, 0)) ∧ key e = k) := by
        rw [hW2]
        exact ⟨HL.step (Stp.marked ((Below.refl _ wr).alloc (Nat.le_refl _) _) 1 τ1 (Nat.le_refl _) 1) (Or.inl rfl) hn, ⟨heap_alloc_new wr _, mark_new _ _ _⟩, hk⟩
      have hkn : k < n + 3 := by rw [← hk]; exact HK.out e hlt
      clear hx HL HI hk
      go_wp2_with fail
      rw [← hW2]
      clear hW2 h0 h1 h2 h3 h4 h5 h6 h7 h8 h9 h10
      generalize mark τ1 wr.heap.size 1 = τ2 at H2
      generalize wr.heap.size = tb at H2 ⊢
      have q1 : W2.cell? ⟨cb, 1, none⟩ = some (.map (some pm)) := (H2.out.1.base.cat.cell rfl).1
      have q9 : W2.cell? ⟨tb, 9, none⟩ = some (.string shaText) := (H2.out.2.1.cell rfl).1
      have q10 : W2.cell? ⟨tb, 10, none⟩ = some (.string (aText k)) := (H2.out.2.1.cell rfl).1
      have H3 : ∀ q, Hid (L1 w (W2.drewN q) τ2 cb pm gM cM n m bm e vI vU1 vK key Pv Pr pre ord gv ∧ Blk (W2.drewN q) τ2 1 tb (.cells (msCells e k).toArray 49 (0, 0)) ∧ key e = k) := fun q => ⟨H2.out.1.step (Stp.drewN 1 τ2 q) (Or.inl rfl) hn, ⟨H2.out.2.1.at', H2.out.2.1.tag⟩, H2.out.2.2⟩
      by_cases hkl : n ≤ k
      · have hlk : ∀ q, (Instr.lookup 27 (.map (some pm)) (dig k) true).run Yba.prog (W2.drewN q) = .ok (.tuple #[.int .i64 0, .bool false]) (W2.drewN q) := fun q => pos_miss (w := W2.drewN q) H2.out.1.base.pos.at' (by omega) hkl (by omega)
        have hlk0 := hlk 0
        rw [World.drewN_zero] at hlk0
        go_quiet (fail)
        clear hlk hlk0 q1 q9 q10 H2
        have H4 := H3 nq
        generalize W2.drewN nq = W3 at H4 ⊢
        clear H3
        go_wp2_with fail
        have p2 := H4.out.1.base.cat.cell (i := 2) rfl
        have p2a := p2.1
        have p2b := p2.2
        have r0 : W3.cell? ⟨tb, 0, none⟩ = some noStr := (H4.out.2.1.cell rfl).1
        have r1 : W3.cell? ⟨tb, 1, none⟩ = some noStr := (H4.out.2.1.cell rfl).1
        have r2 : W3.cell? ⟨tb, 2, none⟩ = some noStr := (H4.out.2.1.cell rfl).1
        have r3 : W3.cell? ⟨tb, 3, none⟩ = some (.int .i64 (1000000 + e)) := (H4.out.2.1.cell rfl).1
        have r4 : W3.cell? ⟨tb, 4, none⟩ = some (.pointer none) := (H4.out.2.1.cell rfl).1
        have r5 : W3.cell? ⟨tb, 5, none⟩ = some noStr := (H4.out.2.1.cell rfl).1
        have r6 : W3.cell? ⟨tb, 6, none⟩ = some noStr := (H4.out.2.1.cell rfl).1
        have r7 : W3.cell? ⟨tb, 7, none⟩ = some noStr := (H4.out.2.1.cell rfl).1
        have r8 : W3.cell? ⟨tb, 8, none⟩ = some noStr := (H4.out.2.1.cell rfl).1
        have hcb : cb < W3.heap.size := H4.out.1.base.cat.lt
        have htb : tb < W3.heap.size := H4.out.2.1.lt
        clear p2
        obtain ⟨τ3, hτ3⟩ : ∃ τ3, τ3 = mark τ2 W3.heap.size 1 := ⟨_, rfl⟩
        have H5 : Hid (L1 w (W3.alloc (.cells (dCells (1000000 + (e : Int))).toArray 40)).drew τ3 cb pm gM cM n m bm e vI vU1 vK key Pv Pr pre ord gv ∧ Blk (W3.alloc (.cells (dCells (1000000 + (e : Int))).toArray 40)).drew τ3 1 tb (.cells (msCells e k).toArray 49 (0, 0)) ∧ (W3.alloc (.cells (dCells (1000000 + (e : Int))).toArray 40)).drew.heap[W3.heap.size]? = some (.cells (dCells (1000000 + (e : Int))).toArray 40 (0, 0))) := by
          have hs : Stp 9 W3 τ2 (W3.alloc (.cells (dCells (1000000 + (e : Int))).toArray 40)).drew τ3 := by
            rw [hτ3]; exact Stp.marked ((Below.refl _ W3).alloc (Nat.le_refl _) _).drew 9 τ2 (Nat.le_refl _) 1
          exact ⟨H4.out.1.step hs (by omega) hn, H4.out.2.1.step hs (by omega), heap_alloc_new W3 _⟩
        clear hτ3
        have HU : Hid ((pre ++ ear2 key n e).length + 1 ≤ 10000) := by
          show (pre ++ ear2 key n e).length + 1 ≤ 10000
          have := ear2_len key n e
          rw [List.length_append]; omega
        go_region_law (first | (refine step_app rfl (.tmp 34) (.tmp 37) el29 rfl H5.out.1.base.una rfl ⟨W3.heap.size, 0, none⟩ 1 1 rfl (dCells (1000000 + (e : Int))) rfl (news_of H5.out.2.2) (dCells_one _) HU.out (Nat.succ_pos _) ?_; intro g9 c9 W9 HN; have kk := unaKeep HN H5.out.1.base.cat H5.out.2.1; have k0 := kk.1.1; have k1 := kk.1.2; clear kk))
        all_goals
          have hfin := H5.out.1.una hn (by rw [H4.out.2.2]; exact hkl) HN.out.1 HN.out.2
          rw [List.length_append] at hfin
          have HF := hid hfin
          clear hfin k0 k1 HN H5 H4 HU
          go_wp2
          go_roundw
          case rel => exact ⟨e + 1, hlt, by go_num, _, _, _, _, HF.out⟩
          case measure => simp [intOf]; omega
      · have hlk : ∀ q, (Instr.lookup 27 (.map (some pm)) (dig k) true).run Yba.prog (W2.drewN q) = .ok (.tuple #[.int .i64 k, .bool true]) (W2.drewN q) := fun q => pos_hit (w := W2.drewN q) H2.out.1.base.pos.at' (by omega) (by omega)
        have hlk0 := hlk 0
        rw [World.drewN_zero] at hlk0
        go_quiet (fail)
        clear hlk hlk0 q1 q9 q10 H2
        have H4 := H3 nq
        generalize W2.drewN nq = W3 at H4 ⊢
        clear H3
        have hkk : k < n := by omega
        have r0 : W3.cell? ⟨tb, 0, none⟩ = some noStr := (H4.out.2.1.cell rfl).1
        have r1 : W3.cell? ⟨tb, 1, none⟩ = some noStr := (H4.out.2.1.cell rfl).1
        have r2 : W3.cell? ⟨tb, 2, none⟩ = some noStr := (H4.out.2.1.cell rfl).1
        have r3 : W3.cell? ⟨tb, 3, none⟩ = some (.int .i64 (1000000 + e)) := (H4.out.2.1.cell rfl).1
        have r4 : W3.cell? ⟨tb, 4, none⟩ = some (.pointer none) := (H4.out.2.1.cell rfl).1
        have r5 : W3.cell? ⟨tb, 5, none⟩ = some noStr := (H4.out.2.1.cell rfl).1
        have r6 : W3.cell? ⟨tb, 6, none⟩ = some noStr := (H4.out.2.1.cell rfl).1
        have r7 : W3.cell? ⟨tb, 7, none⟩ = some noStr := (H4.out.2.1.cell rfl).1
        have r8 : W3.cell? ⟨tb, 8, none⟩ = some noStr := (H4.out.2.1.cell rfl).1
        obtain ⟨τ3, hτ3⟩ : ∃ τ3, τ3 = mark τ2 W3.heap.size 1 := ⟨_, rfl⟩
        have H5 : Hid (L1 w (W3.alloc (.cells (dCells (1000000 + (e : Int))).toArray 40)) τ3 cb pm gM cM n m bm e vI vU1 vK key Pv Pr pre ord gv ∧ (W3.alloc (.cells (dCells (1000000 + (e : Int))).toArray 40)).heap[W3.heap.size]? = some (.cells (dCells (1000000 + (e : Int))).toArray 40 (0, 0)) ∧ ∀ i ∈ ord, i ≤ 1000) := by
          have hs : Stp 9 W3 τ2 (W3.alloc (.cells (dCells (1000000 + (e : Int))).toArray 40)) τ3 := by
            rw [hτ3]; exact Stp.marked ((Below.refl _ W3).alloc (Nat.le_refl _) _) 9 τ2 (Nat.le_refl _) 1
          exact ⟨H4.out.1.step hs (by omega) hn, heap_alloc_new W3 _, fun i hi => by have := ((H4.out.1.grp.mem i).1 hi).1; omega⟩
        clear hτ3
        have HU : Hid ((ear key k e).length + 1 ≤ 10000) := by
          show (ear key k e).length + 1 ≤ 10000
          have := ear_len key k e
          omega
        by_cases hmem : k ∈ ord
        · have hl2 : (Instr.lookup 56 (.map (some bm)) (.int .i64 k) false).run Yba.prog W3 = .ok (gv k) W3 := bef_hit H4.out.1.grp.map.at' H5.out.2.2 H4.out.1.grp.nd hmem
          go_wp2_with (first | (at_builtin; refine wpList_app rfl (.tmp 45) (.tmp 48) el29 rfl (H5.out.1.grp.own k hmem) rfl ⟨W3.heap.size, 0, none⟩ 1 1 rfl (dCells (1000000 + (e : Int))) rfl (news_of H5.out.2.1) (dCells_one _) HU.out (Nat.succ_pos _) ?_; intro g9 c9 W9 HN; have hup := bef_put_old (H5.out.1.grp.map.step HN.out.2 (by omega)).at' H5.out.2.2 H5.out.1.grp.nd hmem (.slice (some ⟨g9, 0, none⟩) ((ear key k e).length + 1) c9)))
          have HF := hid (H5.out.1.grp_next hn hkk H4.out.2.2 HN.out.1 HN.out.2 (Or.inl ⟨hmem, rfl⟩))
          clear hup HN H5 H4 HU hl2 r0 r1 r2 r3 r4 r5 r6 r7 r8
          go_roundw
          case rel => exact ⟨e + 1, hlt, by go_num, _, _, _, _, HF.out⟩
          case measure => simp [intOf]; omega
        · have hl2 : (Instr.lookup 56 (.map (some bm)) (.int .i64 k) false).run Yba.prog W3 = .ok (.slice none 0 0) W3 := bef_miss H4.out.1.grp.map.at' H5.out.2.2 H4.out.1.grp.nd hmem (by omega)
          have HZ : Hid (Has (W3.alloc (.cells (dCells (1000000 + (e : Int))).toArray 40)) τ3 (1000 + k) 40 9 (.slice none 0 0) (ear key k e).length (descs (ear key k e))) := by
            rw [ear_none (fun x hx hxk => hmem ((H4.out.1.grp.mem k).2 ⟨hkk, x, hx, hxk⟩))]
            exact Has.nil _ _ _ _ _
          go_wp2_with (first | (at_builtin; refine wpList_app rfl (.tmp 45) (.tmp 48) el29 rfl HZ.out rfl ⟨W3.heap.size, 0, none⟩ 1 1 rfl (dCells (1000000 + (e : Int))) rfl (news_of H5.out.2.1) (dCells_one _) HU.out (Nat.succ_pos _) ?_; intro g9 c9 W9 HN; have hup := bef_put_new' (H5.out.1.grp.map.step HN.out.2 (by omega)).at' H5.out.2.2 H5.out.1.grp.nd hmem (by omega) (.slice (some ⟨g9, 0, none⟩) ((ear key k e).length + 1) c9)))
          have hfin := H5.out.1.grp_next hn hkk H4.out.2.2 HN.out.1 HN.out.2 (Or.inr ⟨hmem, rfl⟩)
          rw [show (ord ++ [k]).length = ord.length + 1 by simp] at hfin
          have HF := hid hfin
          clear hfin
          clear hup HN H5 H4 HU hl2 r0 r1 r2 r3 r4 r5 r6 r7 r8
          go_roundw
          case rel => exact ⟨e + 1, hlt, by go_num, _, _, _, _, HF.out⟩
          case measure => simp [intOf]; omega
    · obtain rfl : e = m := by omega
      obtain ⟨τ1, vU1, ord, gv, HL⟩ := HI.out
      have hrg := run_range_map (P := Yba.prog) wr 56 3 29 bm (befEs ord gv) ord.length Yba.underlying56 HL.grp.map.at'
      have H2 : Hid (L2 w (wr.alloc (.mapIter (some bm) ord.length #[] ord.length)) (mark τ1 wr.heap.size 9) cb pm gM cM n e bm wr.heap.size vI vU1 vK key Pv Pv Pr (pre ++ ear2 key n e) ord gv (fun _ => false) (fun _ => false) #[]) := by
        have hs := Stp.marked (W := wr) ((Below.refl _ wr).alloc (Nat.le_refl _) (.mapIter (some bm) ord.length #[] ord.length)) 1 τ1 (Nat.le_refl _) 9
        have h1 := HL.step hs (Or.inl rfl) hn
        exact ⟨h1.base, h1.grp.map, ⟨heap_alloc_new wr _, mark_new _ _ _⟩, fun j i hj => by simp, h1.grp.nd, h1.grp.mem, fun i hi _ => h1.grp.own i hi, fun i hi => by simp at hi, fun i _ => rfl, h1.bel, h1.old⟩
      clear HL HI
      generalize wr.alloc (.mapIter (some bm) ord.length #[] ord.length) = W1 at hrg H2
      generalize wr.heap.size = it at hrg H2
      go_wp2
      clear hrg
      go_loopg [53] (todoN ord (fun _ => false)) (fun g s wr => Hid (∃ τ av D seen, todoN ord D ≤ g ∧ L2 w wr τ cb pm gM cM n e bm it vI vU1 vK key av Pv Pr (pre ++ ear2 key n e) ord gv D D seen))
      case atStart => exact ⟨_, _, _, _, Nat.le_refl _, H2.out⟩
      case round =>
        obtain ⟨τ3, av, D, seen, hg, HL⟩ := hrel.out
        rcases HL.next hn 0 with ⟨hrun, hall⟩ | ⟨j, i, W2, hj, hD, hrun, hent, HL2⟩
        · have HF := hid (HL.fin hall)
          clear HL H2 hall
          go_wp2
          go_end0
          exact ⟨rfl, _, _, HF.out⟩
        · have hi : i ∈ ord := List.mem_of_getElem? hj
          have hin : i < n := ((HL2.mem i).1 hi).1
          have hx : ∃ x, x < e ∧ key x = i := ((HL2.mem i).1 hi).2
          obtain ⟨gI, cI, rfl⟩ := HL2.base.img.form (by omega)
          have hlen : 0 < (ear key i e).length := ear_pos hx
          obtain ⟨gG, cG, hgv⟩ := (HL2.todo i hi hD).form hlen
          obtain ⟨gP, cP, hPv⟩ := (HP.out i hin).2
          rw [hgv] at hrun hent
          have q0 : W2.cell? ⟨cb, 0, none⟩ = some (.slice (some ⟨gI, 0, none⟩) n cI) := (HL2.base.cat.cell rfl).1
          have q10 : W2.cell? ⟨gI, i * 11 + 10, none⟩ = some (.slice (some ⟨gP, 0, none⟩) (Pr i).length cP) ∧ W2.frozen? ⟨gI, i * 11 + 10, none⟩ = false := by
            have := HL2.base.img.cell (j := i * 11 + 10) (v := av i) (by rw [imgs_get av hin (by omega)]; rfl)
            rw [HL2.und i hD, hPv] at this
            exact this
          have hib : (i : Int) < (n : Int) := by omega
          have hia : (0 : Int) ≤ (i : Int) := by omega
          have H3 : Hid (L2 w W2 τ3 cb pm gM cM n e bm it (.slice (some ⟨gI, 0, none⟩) n cI) vU1 vK key av Pv Pr (pre ++ ear2 key n e) ord gv D (fun x => D x || x == i) (seen.push j) ∧ i ∈ ord ∧ D i = false ∧ gv i = .slice (some ⟨gG, 0, none⟩) (ear key i e).length cG ∧ Pv i = .slice (some ⟨gP, 0, none⟩) (Pr i).length cP ∧ todoN ord D ≤ gk) := ⟨HL2, hi, hD, hgv, hPv, hg⟩
          clear HL2 HL hgv hPv hj hx hlen hi hD H2 hg hrel
          go_wp2_with fail
          clear hrun hent
          obtain ⟨q10a, q10b⟩ := q10
          have H4 : Hid (L2 w W2.drew τ3 cb pm gM cM n e bm it (.slice (some ⟨gI, 0, none⟩) n cI) vU1 vK key av Pv Pr (pre ++ ear2 key n e) ord gv D (fun x => D x || x == i) (seen.push j)) := H3.out.1.step (Stp.drewN 1 τ3 1) rfl hn
          have HU : Hid ((ear key i e).length + (Pr i).length ≤ 10000 ∧ 0 < (ear key i e).length + (Pr i).length) := by
            have h1 := ear_len key i e
            have h2 := (HP.out i hin).1
            have h3 : 0 < (ear key i e).length := ear_pos ((H3.out.1.mem i).1 H3.out.2.1).2
            exact ⟨by omega, by omega⟩
          have HS : Hid (Has W2.drew τ3 (1000 + i) 40 9 (.slice (some ⟨gG, 0, none⟩) (ear key i e).length cG) (ear key i e).length (descs (ear key i e)) ∧ ∀ q u, (descs (Pr i))[q]? = some u → W2.drew.cell? ((⟨gP, 0, none⟩ : Addr).add q) = some u) := by
            have h1 := H4.out.todo i H3.out.2.1 H3.out.2.2.1
            rw [H3.out.2.2.2.1] at h1
            have h2 := H4.out.base.pri i hin
            rw [H3.out.2.2.2.2.1] at h2
            exact ⟨h1, fun q u hu => by rw [Addr.add_lit, Nat.zero_add]; exact (h2.cell hu).1⟩
          go_region_law (first | (refine step_app rfl (.tmp 63) (.tmp 71) el29 rfl HS.out.1 rfl ⟨gP, 0, none⟩ (Pr i).length cP rfl (descs (Pr i)) (descs_len _) HS.out.2 (descs_oneCell _) HU.out.1 HU.out.2 ?_; intro g9 c9 W9 HN; have k0 := gotKeep HN H4.out.base.cat H4.out.base.img hin; have k1 := k0.1; have k2 := k0.2.1; have k3 := k0.2.2; clear k0))
          all_goals
            have HF := hid (H4.out.got hn H3.out.2.1 HN.out.1 HN.out.2)
            have HT := hid (Nat.lt_of_lt_of_le (todoN_lt H3.out.2.1 H3.out.2.2.1) H3.out.2.2.2.2.2)
            clear k1 k2 k3 HN H3 H4 HU HS q0 q10a q10b
            go_wp2
            go_roundg (todoN ord fun x => D x || x == i)
            case measure => exact HT.out
            case rel => exact ⟨_, _, _, _, Nat.le_refl _, HF.out⟩

/-- attachEarly -/
theorem attach_any (w W : World) (τ : Nat → Nat) (cb pm gM cM n m : Nat) (vI vU vK : Value) (key : Nat → Nat) (Pv : Nat → Value) (Pr : Nat → List Int) (pre : List Int)
    (hB : Base W τ cb pm gM cM n m vI vU vK key Pv Pv Pr pre) (hbel : Below w.heap.size w W) (hold : ∀ k, k < w.heap.size → τ k = 0) (hn : n ≤ 300) (hm : m ≤ 1024) (hp : pre.length ≤ 1024) (hk : ∀ e, e < m → key e < n + 3)
    (hP : ∀ i, i < n → (Pr i).length ≤ 1024 ∧ ∃ g c, Pv i = .slice (some ⟨g, 0, none⟩) (Pr i).length c) :
    Calls Yba.prog 5 #[.pointer (some ⟨cb, 0, none⟩), .slice (some ⟨gM, 0, none⟩) m cM] W fun e w' => e = .returned (.tuple #[]) ∧ ∃ vU' av, Hid (Fin w w' cb pm n m vI vU' vK key av Pr (pre ++ ear2 key n m)) := by
  refine attach_core w W (W.alloc (.map #[] 0)) (mark τ W.heap.size 8) cb pm gM cM n m W.heap.size vI vU vK key Pv Pr pre ?_ rfl hn hm hp hk hP
  have hs := Stp.marked (W := W) ((Below.refl _ W).alloc (Nat.le_refl _) (.map #[] 0)) 1 τ (Nat.le_refl _) 8
  refine ⟨?_, ⟨⟨heap_alloc_new W _, mark_new _ _ _⟩, List.nodup_nil, fun i => by simp, fun i hi => by cases hi⟩, (hs.below hbel hold (by omega)).1, (hs.below hbel hold (by omega)).2⟩
  have := hB.step hs (Or.inl rfl) hn
  simpa [ear2] using this
end Go.Proofs.Ybulkczwi
