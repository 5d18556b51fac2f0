import Derived.Test.YbulkczrmDoorPage
namespace Go.Proofs.YbulkczrmDoor
open Go.RowKit
set_option linter.unusedVariables false
set_option linter.unusedSimpArgs false

/-- a page's slice -/
abbrev pv (L g : Nat) : Value := .slice (some ⟨g, 0, none⟩) L L

set_option maxRecDepth 20000 in
set_option maxHeartbeats 1000000 in
theorem readAt_fail (Bf gd gp n o L : Nat) (tf : TypeId) (xf : Value) (w : World)
    (hf : w.heap[Bf]? = some (.cells #[.slice (some ⟨gd, 0, none⟩) n n, .iface tf xf, .slice none 0 0, .slice none 0 0] 32 (0, 0)))
    (ho : o < 30000) (hL1 : L ≤ 4096) (hL2 : 4096 ≤ L) :
    Calls Ybad.prog 39 #[.pointer (some ⟨Bf, 0, none⟩), .slice (some ⟨gp, 0, none⟩) L L, .int .i64 o] w fun e w' =>
      e = .returned (.tuple #[.int .i64 0, .iface tf xf]) ∧ FileAt w' Bf (.slice (some ⟨gd, 0, none⟩) n n) (.iface tf xf) o ∧ Upd [Bf] w w' := by
  obtain ⟨i0, hi, hz0, hz1, hz2⟩ := info_parts Ybad.info2
  obtain ⟨i1, hi1, hz01, hz11, hz21⟩ := info_parts Ybad.info3
  have hBf := lt_of_block hf
  have hf2 : w.cell? ⟨Bf, 2, none⟩ = some (.slice none 0 0) := by rw [cell_of_row w _ _ _ _ _ hf]; rfl
  go_enter Ybad.func39, Ybad.ntmps39
  go_wp2_with (first | (at_builtin; refine wpList_append_own _ rfl (.tmp 13) (.tmp 15) 29 rfl w.heap.size 2 i0 (.int .i64 0) 1 8 Ybad.underlying29 hi hz0 hz1 hz2 rfl (by decide) (.slice none 0 0) 0 [] rfl (World.ownsRow_nil _ _ _ _) ⟨w.heap.size, 0, none⟩ 1 1 [.int .i64 o] rfl rfl (one_at _ _ _ _ (by simp)) (by intro u hu; simp at hu; subst hu; rfl) (by decide) (by decide) (by simp) ?_))
  intro vo w1 hown1 hg1 _
  obtain ⟨go, co, curo, rfl, hgo, hho, hco⟩ := own_one hown1
  have old1 : ∀ k, k < w.heap.size → w1.heap[k]? = w.heap[k]? := fun k hk => (hg1.block k (by simp; omega) (by simp [Value.ownBlock])).trans (Below.heap_alloc _ _ _ hk)
  have hf1 := (old1 Bf hBf).trans hf
  have hs1 : w.heap.size < w1.heap.size := by have := hg1.size; simp at this; omega
  have e0 : w1.cell? ⟨Bf, 0, none⟩ = some (.slice (some ⟨gd, 0, none⟩) n n) := by rw [cell_of_row w1 _ _ _ _ _ hf1]; rfl
  have e1 : w1.cell? ⟨Bf, 1, none⟩ = some (.iface tf xf) := by rw [cell_of_row w1 _ _ _ _ _ hf1]; rfl
  have e2 : w1.cell? ⟨Bf, 2, none⟩ = some (.slice none 0 0) := by rw [cell_of_row w1 _ _ _ _ _ hf1]; rfl
  have e3 : w1.cell? ⟨Bf, 3, none⟩ = some (.slice none 0 0) := by rw [cell_of_row w1 _ _ _ _ _ hf1]; rfl
  have fr : ∀ j, w1.frozen? ⟨Bf, j, none⟩ = false := fun j => frozen_of_row w1 _ _ _ _ hf1
  have F1 : Hid (w1.heap[Bf]? = some (.cells #[.slice (some ⟨gd, 0, none⟩) n n, .iface tf xf, .slice none 0 0, .slice none 0 0] 32 (0, 0)) ∧ w1.heap[go]? = some (.cells curo 2 (0, 0)) ∧ curo[0]? = some (.int .i64 o)) := ⟨hf1, hho, hco⟩
  have G1 : Hid _ := hg1
  clear hf hf1 old1 hho hco hown1 hf2 hg1
  go_wp2_with (first | (at_builtin; refine wpList_append_own _ rfl (.tmp 23) (.tmp 26) 30 rfl w.heap.size 3 i1 (.int .i64 0) 1 8 Ybad.underlying30 hi1 hz01 hz11 hz21 rfl (by decide) (.slice none 0 0) 0 [] rfl (World.ownsRow_nil _ _ _ _) ⟨w1.heap.size, 0, none⟩ 1 1 [.int .i64 L] rfl rfl (one_at _ _ _ _ (by simp)) (by intro u hu; simp at hu; subst hu; rfl) (by decide) (by decide) (by simp; omega) ?_))
  intro vl w2 hown2 hg2 _
  obtain ⟨gl, cl, curl, rfl, hgl, hhl, hcl⟩ := own_one hown2
  obtain ⟨a1, a3, a4⟩ := F1.out
  have old2 : ∀ k, k < w1.heap.size → k ≠ Bf → w2.heap[k]? = w1.heap[k]? := fun k hk hne =>
    (hg2.block k (by simp; omega) (by simp [Value.ownBlock])).trans ((Below.heap_alloc _ _ _ (by simpa using hk)).trans (heap_setCell_other _ _ _ _ hne))
  have hf2 : w2.heap[Bf]? = some (.cells #[.slice (some ⟨gd, 0, none⟩) n n, .iface tf xf, .slice (some ⟨go, 0, none⟩) 1 co, .slice none 0 0] 32 (0, 0)) :=
    (hg2.block Bf (by simp; omega) (by simp [Value.ownBlock])).trans ((Below.heap_alloc _ _ _ (by simp; omega)).trans (heap_setCell_same _ _ _ _ _ _ a1))
  have hs2 : w1.heap.size < w2.heap.size := by have := hg2.size; simp at this; omega
  have e20 : w2.cell? ⟨Bf, 0, none⟩ = some (.slice (some ⟨gd, 0, none⟩) n n) := by rw [cell_of_row w2 _ _ _ _ _ hf2]; rfl
  have e21 : w2.cell? ⟨Bf, 1, none⟩ = some (.iface tf xf) := by rw [cell_of_row w2 _ _ _ _ _ hf2]; rfl
  have e23 : w2.cell? ⟨Bf, 3, none⟩ = some (.slice none 0 0) := by rw [cell_of_row w2 _ _ _ _ _ hf2]; rfl
  have fr2 : ∀ j, w2.frozen? ⟨Bf, j, none⟩ = false := fun j => frozen_of_row w2 _ _ _ _ hf2
  have FIN : Hid (FileAt (w2.setCell ⟨Bf, 3, none⟩ (.slice (some ⟨gl, 0, none⟩) 1 cl)) Bf (.slice (some ⟨gd, 0, none⟩) n n) (.iface tf xf) o ∧ Upd [Bf] w (w2.setCell ⟨Bf, 3, none⟩ (.slice (some ⟨gl, 0, none⟩) 1 cl))) := by
    refine ⟨fileAt_of (w2 := w2) (L := L) (by omega) hf2 ((old2 go (lt_of_block a3) (by omega)).trans a3) a4 hhl hcl (by omega) (by omega) (cl := cl) fun k hk => rfl, ?_⟩
    exact (((((Upd.refl [Bf] w).alloc _).grown G1 (by simp [Value.ownBlock])).setCell (by simp) _).alloc _ |>.grown hg2 (by simp [Value.ownBlock])).setCell (by simp) _
  clear F1 G1 a1 a3 a4 old2 hf2 hg2 hown2 hhl hcl e0 e1 e2 e3 fr
  go_wp2
  go_region
  all_goals
    go_wp2
    go_ret2
    exact ⟨rfl, FIN.out.1, FIN.out.2.drew⟩

set_option maxRecDepth 20000 in
theorem buffer_spare (L Bc Bsp m gp : Nat) (cs : List Value) (w : World) (hm : 0 < m) (hm3 : m ≤ 3) (hc : w.cell? ⟨Bc, 9, none⟩ = some (.slice (some ⟨Bsp, 0, none⟩) m m)) (hcf : w.frozen? ⟨Bc, 9, none⟩ = false)
    (hs : w.heap[Bsp]? = some (.cells cs.toArray 36 (0, 0))) (hl : cs.length = m) (hp : cs[m - 1]? = some (pv L gp)) (hne : Bc ≠ Bsp) :
    Calls Ybad.prog 14 #[.pointer (some ⟨Bc, 0, none⟩)] w fun e w' => e = .returned (pv L gp) ∧
      w' = (w.setCell ⟨Bsp, m - 1, none⟩ (.slice none 0 0)).setCell ⟨Bc, 9, none⟩ (.slice (some ⟨Bsp, 0, none⟩) (m - 1) m) := by
  have hcell : w.cell? ⟨Bsp, m - 1, none⟩ = some (.slice (some ⟨gp, 0, none⟩) L L) := by rw [cell_of_row _ _ _ _ _ _ hs]; simpa using hp
  have hfr : w.frozen? ⟨Bsp, m - 1, none⟩ = false := frozen_of_row _ _ _ _ _ hs
  clear hs hl hp
  go_enter Ybad.func14, Ybad.ntmps14
  go_wp2
  go_ret
  exact ⟨rfl, rfl⟩

/-- The store, its cache with m spare pages, the file before its first read. -/
structure SLaid (w : World) (Bs Bc Bf Bsp gd gp n m L : Nat) (k : Int) (fv : Value) (aE : Addr) (D P : List Int) (cs : List Value) : Prop where
  s1 : w.cell? ⟨Bs, 1, none⟩ = some (.iface 26 (.pointer (some ⟨Bf, 0, none⟩)))
  s17 : w.cell? ⟨Bs, 17, none⟩ = some (.pointer (some ⟨Bc, 0, none⟩))
  s18 : w.cell? ⟨Bs, 18, none⟩ = some (.int .i64 k)
  sf : w.frozen? ⟨Bs, 18, none⟩ = false
  c : w.cell? ⟨Bc, 9, none⟩ = some (.slice (some ⟨Bsp, 0, none⟩) m m)
  cf : w.frozen? ⟨Bc, 9, none⟩ = false
  sp : w.heap[Bsp]? = some (.cells cs.toArray 36 (0, 0))
  spl : cs.length = m
  spp : cs[m - 1]? = some (pv L gp)
  f : w.heap[Bf]? = some (.cells #[.slice (some ⟨gd, 0, none⟩) n n, fv, .slice none 0 0, .slice none 0 0] 32 (0, 0))
  d : w.heap[gd]? = some (.cells (bcells D).toArray 5 (0, 0))
  p : w.heap[gp]? = some (.cells (bcells P).toArray 5 (0, 0))
  e : w.cell? ⟨2, 0, none⟩ = some (.iface 81 (.pointer (some aE)))
  dl : D.length = n
  pl : P.length = L
  x1 : Bs ≠ Bf
  x2 : Bs ≠ gd
  x3 : Bs ≠ gp
  x4 : Bs ≠ Bc
  x5 : Bs ≠ Bsp
  x6 : Bf ≠ gd
  x7 : Bf ≠ gp
  x8 : Bf ≠ Bc
  x9 : Bf ≠ Bsp
  x10 : gd ≠ gp
  x11 : gd ≠ Bc
  x12 : gd ≠ Bsp
  x13 : gp ≠ Bc
  x14 : gp ≠ Bsp
  x15 : Bc ≠ Bsp
  b1 : 2 < Bs
  b2 : 2 < Bf
  b3 : 2 < gd
  b4 : 2 < gp
  b5 : 2 < Bc
  b6 : 2 < Bsp
  nn : n < 30000
  m0 : 0 < m
  m3 : m ≤ 3

/-- What readPage leaves. -/
structure SLeft (w w' : World) (Bs Bc Bf Bsp gd gp n m q : Nat) (k : Int) (fv : Value) (P : List Int) (cs : List Value) : Prop where
  file : FileAt w' Bf (.slice (some ⟨gd, 0, none⟩) n n) fv (q * 4096 : Nat)
  count : w'.cell? ⟨Bs, 18, none⟩ = some (.int .i64 (k + 1))
  spare : w'.cell? ⟨Bc, 9, none⟩ = some (.slice (some ⟨Bsp, 0, none⟩) (m - 1) m)
  sp : w'.heap[Bsp]? = some (.cells (cs.set (m - 1) (.slice none 0 0)).toArray 36 (0, 0))
  page : w'.heap[gp]? = some (.cells (bcells P).toArray 5 (0, 0))
  upd : Upd [Bs, Bc, Bf, Bsp, gp] w w'

theorem hsc {w : World} {b o k : Nat} {v : Value} (h : k ≠ b) : (w.setCell ⟨b, o, none⟩ v).heap[k]? = w.heap[k]? := heap_setCell_other _ _ _ _ h
theorem ane {b b' o o' : Nat} (h : b ≠ b') : (⟨b, o, none⟩ : Addr) ≠ ⟨b', o', none⟩ := fun e => h (congrArg Addr.block e)

/-- Behind 'buffer' and the count. -/
theorem mid_facts {w : World} {Bs Bc Bf Bsp gd gp n m L : Nat} {k : Int} {fv : Value} {aE : Addr} {D P : List Int} {cs : List Value} (H : SLaid w Bs Bc Bf Bsp gd gp n m L k fv aE D P cs) (w2 : World)
    (hw : w2 = ((w.setCell ⟨Bsp, m - 1, none⟩ (.slice none 0 0)).setCell ⟨Bc, 9, none⟩ (.slice (some ⟨Bsp, 0, none⟩) (m - 1) m)).setCell ⟨Bs, 18, none⟩ (.int .i64 (k + 1))) :
    w2.heap[Bf]? = w.heap[Bf]? ∧ w2.heap[gd]? = w.heap[gd]? ∧ w2.heap[gp]? = w.heap[gp]? ∧ w2.cell? ⟨2, 0, none⟩ = w.cell? ⟨2, 0, none⟩ ∧
    w2.cell? ⟨Bs, 18, none⟩ = some (.int .i64 (k + 1)) ∧ w2.cell? ⟨Bc, 9, none⟩ = some (.slice (some ⟨Bsp, 0, none⟩) (m - 1) m) ∧ w2.heap[Bsp]? = some (.cells (cs.set (m - 1) (.slice none 0 0)).toArray 36 (0, 0)) ∧ Upd [Bs, Bc, Bf, Bsp, gp] w w2 := by
  have far : ∀ k, k ≠ Bsp → k ≠ Bc → k ≠ Bs → w2.heap[k]? = w.heap[k]? := fun j h1 h2 h3 => by
    rw [hw, heap_setCell_other _ _ _ _ h3, heap_setCell_other _ _ _ _ h2, heap_setCell_other _ _ _ _ h1]
  have := H.x1; have := H.x2; have := H.x3; have := H.x4; have := H.x5; have := H.x8; have := H.x9; have := H.x11; have := H.x12; have := H.x13; have := H.x14; have := H.x15
  have := H.b1; have := H.b5; have := H.b6
  refine ⟨far Bf (by omega) (by omega) (by omega), far gd (by omega) (by omega) (by omega), far gp (by omega) (by omega) (by omega), World.cell?_of_block (far 2 (by omega) (by omega) (by omega)), ?_, ?_, ?_, ?_⟩
  · rw [hw]
    refine World.cell?_setCell_same _ _ _ (u := .int .i64 k) ?_
    rw [World.cell?_setCell_other _ _ _ _ (ane (by omega)), World.cell?_setCell_other _ _ _ _ (ane (by omega))]; exact H.s18
  · rw [hw, World.cell?_setCell_other _ _ _ _ (ane (by omega))]
    refine World.cell?_setCell_same _ _ _ (u := .slice (some ⟨Bsp, 0, none⟩) m m) ?_
    rw [World.cell?_setCell_other _ _ _ _ (ane (by omega))]; exact H.c
  · rw [hw, hsc (by omega), hsc (by omega), heap_setCell_same _ _ _ _ _ _ H.sp]
    simp
  · rw [hw]
    exact (((Upd.refl _ w).setCell (by simp) _).setCell (by simp) _).setCell (by simp) _

set_option maxRecDepth 20000 in
set_option maxHeartbeats 1000000 in
theorem readPage_spare_ok (Bs Bc Bf Bsp gd gp n m L q : Nat) (k : Int) (aE : Addr) (D P : List Int) (cs : List Value) (w : World) (H : SLaid w Bs Bc Bf Bsp gd gp n m L k .nilIface aE D P cs)
    (hk0 : 0 ≤ k) (hk1 : k < 1000) (hq : q < 6) (hL1 : L ≤ 4096) (hL2 : 4096 ≤ L) (hle : q * 4096 + L ≤ n) :
    Calls Ybad.prog 6 #[.pointer (some ⟨Bs, 0, none⟩), .int .u32 q] w fun e w' => SLeft w w' Bs Bc Bf Bsp gd gp n m q k .nilIface ((D.drop (q * 4096)).take L) cs ∧ e = .returned (.tuple #[pv L gp, .nilIface]) := by
  have HH : Hid (SLaid w Bs Bc Bf Bsp gd gp n m L k .nilIface aE D P cs) := H
  obtain ⟨h1, h17, h18, hsf, hc, hcf, hsp, hspl, hspp, hf, hd, hpg, hE, hDl, hPl, x1, x2, x3, x4, x5, x6, x7, x8, x9, x10, x11, x12, x13, x14, x15, b1, b2, b3, b4, b5, b6, hnn, hm0, hm3⟩ := H
  have hm := hReadAt Bf
  clear hcf hsp hspl hspp hf hd hpg hDl hPl hc
  go_enter Ybad.func6, Ybad.ntmps6
  go_wp2_with fail
  refine (buffer_spare L Bc Bsp m gp cs w hm0 hm3 HH.out.c HH.out.cf HH.out.sp HH.out.spl HH.out.spp x15).mono ?_
  rintro e w1 ⟨rfl, hw1⟩
  have a1 : w1.cell? ⟨Bs, 1, none⟩ = some (.iface 26 (.pointer (some ⟨Bf, 0, none⟩))) := by
    rw [hw1, World.cell?_setCell_other _ _ _ _ (ane (by omega)), World.cell?_setCell_other _ _ _ _ (ane (by omega))]; exact h1
  have a18 : w1.cell? ⟨Bs, 18, none⟩ = some (.int .i64 k) := by
    rw [hw1, World.cell?_setCell_other _ _ _ _ (ane (by omega)), World.cell?_setCell_other _ _ _ _ (ane (by omega))]; exact h18
  have afr : w1.frozen? ⟨Bs, 18, none⟩ = false := by
    rw [hw1, World.frozen?_of_block ((hsc (by omega)).trans (hsc (by omega)))]; exact hsf
  have HW : Hid _ := hw1
  clear hw1 h1 h17 h18 hsf hE
  go_wp2_with fail
  obtain ⟨m1, m2, m3, m4, m5, m6, m7, m8⟩ := mid_facts HH.out (w1.setCell ⟨Bs, 18, none⟩ (.int .i64 (k + 1))) (by rw [HW.out])
  rw [show ((q : Int) * 4096) = ((q * 4096 : Nat) : Int) by omega]
  generalize hW2 : w1.setCell ⟨Bs, 18, none⟩ (.int .i64 (k + 1)) = w2 at *
  refine (readAt_ok Bf gd gp n (q * 4096) L (min (n - q * 4096) L) .nilIface D P 81 (.pointer (some aE)) _ (m1.trans HH.out.f) (m3.trans HH.out.p) (m2.trans HH.out.d) (m4.trans HH.out.e) HH.out.pl HH.out.dl x7 x6 (by omega) b2 b4 (by omega) hnn hL1 hL2 rfl (.inl ⟨hle, rfl⟩)).mono ?_
  rintro e w3 ⟨rfl, hfile, hpg, hu3⟩
  have c3 : w3.cell? ⟨2, 0, none⟩ = some (.iface 81 (.pointer (some aE))) := by
    rw [World.cell?_of_block (hu3.block 2 (World.block_lt_of_cell? w2 _ (m4.trans HH.out.e)) (by simp; omega))]; exact m4.trans HH.out.e
  have o3 : ∀ k, k < w2.heap.size → k ≠ Bf → k ≠ gp → w3.heap[k]? = w2.heap[k]? := fun j hj h1 h2 => hu3.block j hj (by simp; omega)
  have FIN : Hid (SLeft w w3 Bs Bc Bf Bsp gd gp n m q k .nilIface ((D.drop (q * 4096)).take L) cs) := by
    refine ⟨hfile, ?_, ?_, ?_, ?_, m8.trans (hu3.mono (by simp))⟩
    · rw [World.cell?_of_block (o3 Bs (World.block_lt_of_cell? w2 _ m5) (by omega) (by omega))]; exact m5
    · rw [World.cell?_of_block (o3 Bc (World.block_lt_of_cell? w2 _ m6) (by omega) (by omega))]; exact m6
    · rw [o3 Bsp (lt_of_block m7) (by omega) (by omega)]; exact m7
    · rw [hpg, show min (n - q * 4096) L = L by omega, splice_all]
      have h1 := HH.out.pl
      have h2 := HH.out.dl
      simp [bcells]; omega
  clear m1 m2 m3 m4 m5 m6 m7 m8 hW2 hfile hpg hu3 o3 a1 a18 afr HW
  have hq1 := run_eql_iface_nil_left (P := Ybad.prog) w3 81 (.pointer (some aE)) Ybad.underlying28
  go_wp2
  go_ret2
  exact ⟨FIN.out, rfl⟩

set_option maxRecDepth 20000 in
set_option maxHeartbeats 1000000 in
theorem readPage_spare_fail (Bs Bc Bf Bsp gd gp n m L q : Nat) (k : Int) (aE aF : Addr) (D P : List Int) (cs : List Value) (w : World) (H : SLaid w Bs Bc Bf Bsp gd gp n m L k (.iface 81 (.pointer (some aF))) aE D P cs)
    (hk0 : 0 ≤ k) (hk1 : k < 1000) (hq : q < 6) (hL1 : L ≤ 4096) (hL2 : 4096 ≤ L) (cE cF : Array Value) (tE tF : TypeId) (hne : aF ≠ aE) (hbE : w.heap[aE.block]? = some (.cells cE tE (0, 0))) (hbF : w.heap[aF.block]? = some (.cells cF tF (0, 0)))
    (hE1 : aE.block ∉ [Bs, Bc, Bf, Bsp, gp]) (hF1 : aF.block ∉ [Bs, Bc, Bf, Bsp, gp]) :
    Calls Ybad.prog 6 #[.pointer (some ⟨Bs, 0, none⟩), .int .u32 q] w fun e w' => SLeft w w' Bs Bc Bf Bsp gd gp n m q k (.iface 81 (.pointer (some aF))) P cs ∧ e = .returned (.tuple #[pv L gp, .iface 81 (.pointer (some aF))]) := by
  have HE : Hid (w.heap[aE.block]? = some (.cells cE tE (0, 0)) ∧ w.heap[aF.block]? = some (.cells cF tF (0, 0)) ∧ aE.block ∉ [Bs, Bc, Bf, Bsp, gp] ∧ aF.block ∉ [Bs, Bc, Bf, Bsp, gp] ∧ aF ≠ aE) := ⟨hbE, hbF, hE1, hF1, hne⟩
  clear hbE hbF hE1 hF1 hne
  have HH : Hid (SLaid w Bs Bc Bf Bsp gd gp n m L k (.iface 81 (.pointer (some aF))) aE D P cs) := H
  obtain ⟨h1, h17, h18, hsf, hc, hcf, hsp, hspl, hspp, hf, hd, hpg, hE, hDl, hPl, x1, x2, x3, x4, x5, x6, x7, x8, x9, x10, x11, x12, x13, x14, x15, b1, b2, b3, b4, b5, b6, hnn, hm0, hm3⟩ := H
  have hm := hReadAt Bf
  clear hcf hsp hspl hspp hf hd hpg hDl hPl hc
  go_enter Ybad.func6, Ybad.ntmps6
  go_wp2_with fail
  refine (buffer_spare L Bc Bsp m gp cs w hm0 hm3 HH.out.c HH.out.cf HH.out.sp HH.out.spl HH.out.spp x15).mono ?_
  rintro e w1 ⟨rfl, hw1⟩
  have a1 : w1.cell? ⟨Bs, 1, none⟩ = some (.iface 26 (.pointer (some ⟨Bf, 0, none⟩))) := by
    rw [hw1, World.cell?_setCell_other _ _ _ _ (ane (by omega)), World.cell?_setCell_other _ _ _ _ (ane (by omega))]; exact h1
  have a18 : w1.cell? ⟨Bs, 18, none⟩ = some (.int .i64 k) := by
    rw [hw1, World.cell?_setCell_other _ _ _ _ (ane (by omega)), World.cell?_setCell_other _ _ _ _ (ane (by omega))]; exact h18
  have afr : w1.frozen? ⟨Bs, 18, none⟩ = false := by
    rw [hw1, World.frozen?_of_block ((hsc (by omega)).trans (hsc (by omega)))]; exact hsf
  have HW : Hid _ := hw1
  clear hw1 h1 h17 h18 hsf hE
  go_wp2_with fail
  obtain ⟨m1, m2, m3, m4, m5, m6, m7, m8⟩ := mid_facts HH.out (w1.setCell ⟨Bs, 18, none⟩ (.int .i64 (k + 1))) (by rw [HW.out])
  rw [show ((q : Int) * 4096) = ((q * 4096 : Nat) : Int) by omega]
  generalize hW2 : w1.setCell ⟨Bs, 18, none⟩ (.int .i64 (k + 1)) = w2 at *
  refine (readAt_fail Bf gd gp n (q * 4096) L 81 (.pointer (some aF)) _ (m1.trans HH.out.f) (by omega) hL1 hL2).mono ?_
  rintro e w3 ⟨rfl, hfile, hu3⟩
  have c3 : w3.cell? ⟨2, 0, none⟩ = some (.iface 81 (.pointer (some aE))) := by
    rw [World.cell?_of_block (hu3.block 2 (World.block_lt_of_cell? w2 _ (m4.trans HH.out.e)) (by simp; omega))]; exact m4.trans HH.out.e
  have o3 : ∀ k, k < w2.heap.size → k ≠ Bf → w3.heap[k]? = w2.heap[k]? := fun j hj h1 => hu3.block j hj (by simp; omega)
  have U : Upd [Bs, Bc, Bf, Bsp, gp] w w3 := m8.trans (hu3.mono (by simp))
  have FIN : Hid (SLeft w w3 Bs Bc Bf Bsp gd gp n m q k (.iface 81 (.pointer (some aF))) P cs) := by
    refine ⟨hfile, ?_, ?_, ?_, ?_, U⟩
    · rw [World.cell?_of_block (o3 Bs (World.block_lt_of_cell? w2 _ m5) (by omega))]; exact m5
    · rw [World.cell?_of_block (o3 Bc (World.block_lt_of_cell? w2 _ m6) (by omega))]; exact m6
    · rw [o3 Bsp (lt_of_block m7) (by omega)]; exact m7
    · have hpg := m3.trans HH.out.p
      rw [o3 gp (lt_of_block hpg) (by omega)]; exact hpg
  obtain ⟨i, hi, hcmp⟩ := Option.map_eq_some_iff.1 Ybad.comp81
  obtain ⟨j, hj, hjs⟩ := Option.map_eq_some_iff.1 Ybad.size83
  have hq1 := run_eql_iface_ptr_other (P := Ybad.prog) w3 Ybad.underlying28 Ybad.underlying81 hi hcmp hj (by rw [hjs]; decide) HE.out.2.2.2.2 ((U.block _ (lt_of_block HE.out.2.1) HE.out.2.2.2.1).trans HE.out.2.1) ((U.block _ (lt_of_block HE.out.1) HE.out.2.2.1).trans HE.out.1)
  clear m1 m2 m3 m4 m5 m6 m7 m8 hW2 hfile hu3 o3 a1 a18 afr HW U
  go_wp2
  go_ret2
  exact ⟨FIN.out, rfl⟩
end Go.Proofs.YbulkczrmDoor
