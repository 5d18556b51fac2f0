import Derived.Test.YbulkczrmDoorSparePage
import Derived.Test.YbulkczrmDoorReads
namespace Go.Proofs.YbulkczrmDoor
open Go.RowKit
set_option linter.unusedVariables false
set_option linter.unusedSimpArgs false

theorem Ybad.info36 : (Ybad.prog.info? 36).map (fun i => (i.zero, i.size, i.bytes)) = some (some (.slice none 0 0), 1, 24) := by kernel_rfl

theorem all_eq_replicate {X : List Int} {L : Nat} {a : Int} (hl : X.length = L) (h : ∀ i, i < L → X.getD i 0 = a) : X = List.replicate L a := by
  apply List.ext_getElem
  · simp [hl]
  · intro i h1 h2
    have := h i (by omega)
    simp [h1] at this
    simp [this]

theorem set_all {X : List Int} {t : Nat} {a : Int} (h : ∀ i, i < t → X.getD i 0 = a) (ht : t < X.length) : ∀ i, i < t + 1 → (X.set t a).getD i 0 = a := by
  intro i hi
  by_cases e : i = t
  · subst e; simp [ht]
  · have := h i (by omega)
    have hne : t ≠ i := fun e' => e e'.symm
    simpa [List.getElem?_set, hne] using this

theorem slaid_of {w : World} {z Bf Bsp gd gp n m L : Nat} {k : Int} {fv : Value} {aE : Addr} {D P : List Int} {cs : List Value} {mp : Obj} {C S : Array Value}
    (hz : z = w.heap.size) (hsp : w.heap[Bsp]? = some (.cells cs.toArray 36 (0, 0))) (spl : cs.length = m) (spp : cs[m - 1]? = some (pv L gp))
    (hf : w.heap[Bf]? = some (.cells #[.slice (some ⟨gd, 0, none⟩) n n, fv, .slice none 0 0, .slice none 0 0] 32 (0, 0)))
    (hd : w.heap[gd]? = some (.cells (bcells D).toArray 5 (0, 0))) (hp : w.heap[gp]? = some (.cells (bcells P).toArray 5 (0, 0))) (hE : w.cell? ⟨2, 0, none⟩ = some (.iface 81 (.pointer (some aE)))) (dl : D.length = n) (pl : P.length = L)
    (x6 : Bf ≠ gd) (x7 : Bf ≠ gp) (x9 : Bf ≠ Bsp) (x10 : gd ≠ gp) (x12 : gd ≠ Bsp) (x14 : gp ≠ Bsp) (b2 : 2 < Bf) (b3 : 2 < gd) (b4 : 2 < gp) (b6 : 2 < Bsp) (nn : n < 30000) (m0 : 0 < m) (m3 : m ≤ 3)
    (s1 : S[1]? = some (.iface 26 (.pointer (some ⟨Bf, 0, none⟩)))) (s17 : S[17]? = some (.pointer (some ⟨z + 1, 0, none⟩))) (s18 : S[18]? = some (.int .i64 k)) (c9 : C[9]? = some (.slice (some ⟨Bsp, 0, none⟩) m m)) :
    SLaid (((w.alloc mp).alloc (.cells C 44)).alloc (.cells S 53)) (z + 1 + 1) (z + 1) Bf Bsp gd gp n m L k fv aE D P cs := by
  subst hz
  have l1 := lt_of_block hsp
  have l2 := lt_of_block hf
  have l3 := lt_of_block hd
  have l4 := lt_of_block hp
  have hs : ((w.alloc mp).alloc (.cells C 44)).heap.size = w.heap.size + 1 + 1 := by simp
  have hS := heap_alloc_new ((w.alloc mp).alloc (.cells C 44)) (.cells S 53)
  rw [hs] at hS
  have hC : (((w.alloc mp).alloc (.cells C 44)).alloc (.cells S 53)).heap[w.heap.size + 1]? = some (.cells C 44 (0, 0)) := by
    rw [Below.heap_alloc _ _ _ (by simp)]
    have := heap_alloc_new (w.alloc mp) (.cells C 44)
    simpa using this
  have old : ∀ k, k < w.heap.size → (((w.alloc mp).alloc (.cells C 44)).alloc (.cells S 53)).heap[k]? = w.heap[k]? := fun k hk => by
    rw [Below.heap_alloc _ _ _ (by simp; omega), Below.heap_alloc _ _ _ (by simp; omega), Below.heap_alloc _ _ _ hk]
  refine ⟨?_, ?_, ?_, frozen_of_row _ _ _ _ _ hS, ?_, frozen_of_row _ _ _ _ _ hC, (old _ l1).trans hsp, spl, spp, (old _ l2).trans hf, (old _ l3).trans hd, (old _ l4).trans hp, ?_, dl, pl, by omega, by omega, by omega, by omega, by omega, x6, x7, by omega, x9, x10, by omega, x12, by omega, x14, by omega, by omega, b2, b3, b4, by omega, b6, nn, m0, m3⟩
  · rw [cell_of_row _ _ _ _ _ _ hS]; exact s1
  · rw [cell_of_row _ _ _ _ _ _ hS]; exact s17
  · rw [cell_of_row _ _ _ _ _ _ hS]; exact s18
  · rw [cell_of_row _ _ _ _ _ _ hC]; exact c9
  · exact (World.cell?_of_block (old 2 (World.block_lt_of_cell? w _ hE))).trans hE

theorem run_neq_ptr_same {P : Program} (w : World) {tp te : TypeId} {j : TypeInfo} (a : Addr) (hp : P.underlying tp = some (.pointer te)) (hte : P.info? te = some j) :
    (binOp .neq tp (.pointer (some a)) (.pointer (some a))).run P w = .ok (.bool false) w := by
  have h : ∀ d : Nat, (Op.equalIn (d + 1) tp (.pointer (some a)) (.pointer (some a))).run P w = .ok true w := fun d => by simp [Op.equalIn, run_underlying hp, sizeOf, typeInfo, hte, run_sameAddr_same]
  simp only [binOp]
  simp [Op.equal, Op.maxDepth, h 9999]
theorem run_neq_iface_ptr_same {P : Program} (w : World) {ti tp te : TypeId} {ms : Array (String × TypeId)} {i j : TypeInfo} (a : Addr)
    (hi : P.underlying ti = some (.interface ms)) (hp : P.underlying tp = some (.pointer te)) (hinfo : P.info? tp = some i) (hcomp : i.comparable = true) (hte : P.info? te = some j) :
    (binOp .neq ti (.iface tp (.pointer (some a))) (.iface tp (.pointer (some a)))).run P w = .ok (.bool false) w := by
  simp only [binOp]
  simp [Op.equal, Op.maxDepth, run_equalIn_iface_ptr_same w 9998 a hi hp hinfo hcomp hte]
theorem Ybad.size5' : (Ybad.prog.info? 5).map (·.size) = some 1 := by kernel_rfl
theorem hNil36 (w : World) : (binOp .neq 36 (.slice none 0 0) (.slice none 0 0)).run Ybad.prog w = .ok (.bool false) w := by kernel_rfl

theorem errNew_any (s : ByteArray) (w : World) : Calls Ybad.prog 7 #[.string s] w fun e w' => e = .returned (.iface 81 (.pointer (some ⟨w.heap.size, 0, none⟩))) ∧ w' = w.alloc (.cells #[.string s] 83) := by
  go_enter Ybad.func7, Ybad.ntmps7
  go_wp2
  go_ret
  exact ⟨rfl, rfl⟩

set_option maxRecDepth 20000 in
set_option maxHeartbeats 1000000 in
theorem spare_any (a0 a1 a2 m q L M : Nat) (a3 : Bool) (aE : Addr) (cE : Array Value) (tE : TypeId) (w : World) (h0 : a0 < 256) (h1 : a1 < 256) (h2 : a2 < 256) (hm : m = 1 + a0 % 3) (hq : q = a2 % 2) (hL1 : L ≤ 4096) (hL2 : 4096 ≤ L) (hM1 : M ≤ 8192) (hM2 : 8192 ≤ M)
    (hE : w.cell? ⟨2, 0, none⟩ = some (.iface 81 (.pointer (some aE)))) (hbE : w.heap[aE.block]? = some (.cells cE tE (0, 0))) :
    Calls Ybad.prog 4 #[.int .u8 a0, .int .u8 a1, .int .u8 a2, .bool a3] w fun e w' => e = .returned (.bool true) ∧ Below w.heap.size w w' := by
  obtain ⟨i0, hi, hz0, hz1, hz2⟩ := info_parts Ybad.info5
  obtain ⟨i1, hi1, hz01, hz11, hz21⟩ := info_parts Ybad.info36
  have HM : Hid (m = 1 + a0 % 3) := hm
  have HQ : Hid (q = a2 % 2) := hq
  have HE : Hid (w.cell? ⟨2, 0, none⟩ = some (.iface 81 (.pointer (some aE))) ∧ w.heap[aE.block]? = some (.cells cE tE (0, 0))) := ⟨hE, hbE⟩
  have hm1 : 0 < m := by omega
  have hm3 : m ≤ 3 := by omega
  have hq2 : q < 2 := by omega
  clear hm hq hE hbE
  go_enter Ybad.func4, Ybad.ntmps4
  go_wp2_with (first | (at_make; refine wpList_make_full _ rfl _ _ 41 rfl w.heap.size 36 i1 (.slice none 0 0) 1 Ybad.underlying41 hi1 hz01 hz11 _ _ _ _ m rfl rfl (by have := HM.out; omega) (by have := HM.out; omega) (by rw [hz21]; omega) (by unfold maxLen; omega) (Nat.le_refl _) ?_))
  intro w1 hown hg
  have hme : (1 + (a0 : Int) % 3) = (m : Int) := by have := HM.out; omega
  simp only [hme]
  have R1 : Hid (w1.heap[w.heap.size]? = some (.cells (List.replicate m (.slice none 0 0)).toArray 36 (0, 0)) ∧ Below w.heap.size w w1) := by
    refine ⟨?_, (Below.refl _ _).grown hg (Nat.le_refl _) (by simp)⟩
    rw [row_of_own hown, toList_madeCells_one]
  clear hown hg hme HM
  go_wp2
  go_loopw [11] (fun i wr => ∃ (j : Nat) (cs : List Value) (G : Nat → Nat), j ≤ m ∧ i = .int .i64 j ∧ cs.length = m ∧ Below w.heap.size w wr ∧ w.heap.size < wr.heap.size ∧
      Hid (wr.heap[w.heap.size]? = some (.cells cs.toArray 36 (0, 0)) ∧ ∀ t, t < j → cs[t]? = some (pv L (G t)) ∧ w.heap.size < G t ∧ wr.heap[G t]? = some (.cells (bcells (List.replicate L (a1 : Int))).toArray 5 (0, 0)))) (fun i _ => m - (intOf i).toNat)
  case atStart => exact ⟨0, List.replicate m (.slice none 0 0), fun _ => 0, Nat.zero_le _, rfl, by simp, R1.out.2, lt_of_block R1.out.1, R1.out.1, fun t ht => absurd ht (Nat.not_lt_zero _)⟩
  case round =>
    obtain ⟨j, cs, G, hj, rfl, hcs, hbel, hsz, HX⟩ := hrel
    by_cases hlt : j < m
    · go_wp2_with (first | (at_make; refine wpList_make_full _ rfl _ _ 36 rfl w.heap.size 5 i0 (.int .u8 0) 1 Ybad.underlying36 hi hz0 hz1 _ _ _ _ L rfl rfl (by omega) (by omega) (by rw [hz2]; omega) (by unfold maxLen; omega) (by omega) ?_))
      intro w3 hown3 hg3
      have A3 : Hid (w3.heap[w.heap.size]? = some (.cells cs.toArray 36 (0, 0)) ∧ (∀ t, t < j → cs[t]? = some (pv L (G t)) ∧ w.heap.size < G t ∧ G t < wr.heap.size ∧ w3.heap[G t]? = some (.cells (bcells (List.replicate L (a1 : Int))).toArray 5 (0, 0))) ∧
          w3.heap[wr.heap.size]? = some (.cells (bcells (List.replicate L 0)).toArray 5 (0, 0)) ∧ Below w.heap.size w w3) := by
        refine ⟨?_, fun t ht => ?_, ?_, hbel.grown hg3 (by omega) (by simp)⟩
        · rw [hg3.block _ hsz (by simp)]; exact HX.out.1
        · obtain ⟨q1, q2, q3⟩ := HX.out.2 t ht
          refine ⟨q1, q2, lt_of_block q3, ?_⟩
          rw [hg3.block _ (lt_of_block q3) (by simp)]; exact q3
        · rw [row_of_own hown3, toList_madeCells_one]; simp [bcells]
      clear hown3 hg3 HX hbel R1
      go_wp2
      generalize hgp : wr.heap.size = gp at *
      clear hgp
      go_loopw [42] (fun i wx => ∃ (t : Nat) (X : List Int), t ≤ L ∧ i = .int .i64 t ∧ Hid (X.length = L ∧ (∀ i, i < t → X.getD i 0 = (a1 : Int)) ∧ wx.heap[gp]? = some (.cells (bcells X).toArray 5 (0, 0)) ∧ Upd [gp] w3 wx)) (fun i _ => L - (intOf i).toNat)
      case atStart => exact ⟨0, List.replicate L 0, Nat.zero_le _, rfl, by simp, fun i hi => absurd hi (Nat.not_lt_zero _), A3.out.2.2.1, Upd.refl _ _⟩
      case round =>
        obtain ⟨t, X, ht, rfl, HT⟩ := hrel
        by_cases htl : t < L
        · have k1 : wr.cell? ⟨gp, t, none⟩ = some (.int .u8 (X.getD t 0)) := bcells_cell HT.out.2.2.1 (by rw [HT.out.1]; exact htl)
          have k2 : wr.frozen? ⟨gp, t, none⟩ = false := frozen_of_row _ _ _ _ _ HT.out.2.2.1
          go_wp2
          go_roundw
          case rel =>
            obtain ⟨q1, q2, q3, q4⟩ := HT.out
            exact ⟨t + 1, X.set t a1, by omega, by go_num, by simpa using q1, set_all q2 (by omega), bcells_set q3 _, q4.setCell (by simp) _⟩
          case measure => simp [intOf]; omega
        · have k0 : ∃ u, cs[j]? = some u := ⟨_, List.getElem?_eq_getElem (by omega)⟩
          obtain ⟨u, hu⟩ := k0
          have hB := (HT.out.2.2.2.block w.heap.size (lt_of_block A3.out.1) (by simp; omega)).trans A3.out.1
          have k1 : wr.cell? ⟨w.heap.size, j, none⟩ = some u := by rw [cell_of_row _ _ _ _ _ _ hB]; simpa using hu
          have k2 : wr.frozen? ⟨w.heap.size, j, none⟩ = false := frozen_of_row _ _ _ _ _ hB
          have HB : Hid _ := hB
          clear hB hu
          go_wp2
          go_roundw
          case rel =>
            obtain ⟨q1, q2, q3, q4⟩ := HT.out
            obtain ⟨r1, r2, r3, r4⟩ := A3.out
            have hXr : X = List.replicate L (a1 : Int) := all_eq_replicate q1 (fun i hi => q2 i (by omega))
            have hw3 := lt_of_block r1
            have hg3 := lt_of_block r3
            have hsz4 := q4.size
            refine ⟨j + 1, cs.set j (pv L gp), fun t => if t = j then gp else G t, by omega, by go_num, by simpa using hcs, (Upd.below r4 q4 (by simp; omega) (by omega)).setCell (Nat.le_refl _) _, by simp; omega, ?_, fun i hi => ?_⟩
            · rw [heap_setCell_same _ _ _ _ _ _ HB.out]; simp
            · by_cases e : i = j
              · subst e
                refine ⟨by simp [hcs, hlt], by simp; omega, ?_⟩
                rw [hsc (by simp; omega), ← hXr]; simpa using q3
              · obtain ⟨g1, g2, g3, g4⟩ := r2 i (by omega)
                have hne : j ≠ i := fun e' => e e'.symm
                refine ⟨by simpa [List.getElem?_set, hne, e] using g1, by simpa [e] using g2, ?_⟩
                rw [hsc (by simp [e]; omega)]
                simp only [e, if_false]
                rw [q4.block _ (lt_of_block g4) (by simp; omega)]; exact g4
          case measure => simp [intOf]; omega
    · obtain rfl : m = j := by omega
      obtain ⟨p1, p2, p3⟩ := HX.out.2 (m - 1) (by omega)
      obtain ⟨f1, f2, f3⟩ := HX.out.2 0 (by omega)
      have k1 : wr.cell? ⟨w.heap.size, m - 1, none⟩ = some (pv L (G (m - 1))) := by rw [cell_of_row _ _ _ _ _ _ HX.out.1]; simpa using p1
      have k2 : wr.cell? ⟨w.heap.size, 0, none⟩ = some (pv L (G 0)) := by rw [cell_of_row _ _ _ _ _ _ HX.out.1]; simpa using f1
      have h2w : 2 < w.heap.size := World.block_lt_of_cell? w _ HE.out.1
      have haE : aE.block < w.heap.size := lt_of_block HE.out.2
      generalize hgp : G (m - 1) = gp at *
      generalize hgf : G 0 = gf at *
      have HR : Hid (wr.heap[w.heap.size]? = some (.cells cs.toArray 36 (0, 0)) ∧ cs[m - 1]? = some (pv L gp) ∧ wr.heap[gp]? = some (.cells (bcells (List.replicate L (a1 : Int))).toArray 5 (0, 0)) ∧ gp < wr.heap.size ∧ cs[0]? = some (pv L gf)) := ⟨HX.out.1, p1, p3, lt_of_block p3, f1⟩
      clear HX p1 p3 f1 f3 R1 hgp hgf
      go_wp2_with (first | (at_make; refine wpList_make_full _ rfl _ _ 23 rfl w.heap.size 5 i0 (.int .u8 0) 1 Ybad.underlying23 hi hz0 hz1 _ _ _ _ M rfl rfl (by omega) (by omega) (by rw [hz2]; omega) (by unfold maxLen; omega) (by omega) ?_))
      intro w4 hown4 hg4
      generalize hgd : wr.heap.size = gd at *
      have A4 : Hid (w4.heap[w.heap.size]? = some (.cells cs.toArray 36 (0, 0)) ∧ w4.heap[gp]? = some (.cells (bcells (List.replicate L (a1 : Int))).toArray 5 (0, 0)) ∧ w4.heap[gd]? = some (.cells (bcells (List.replicate M 0)).toArray 5 (0, 0)) ∧ Below w.heap.size w w4 ∧ gp < gd ∧ cs[m - 1]? = some (pv L gp) ∧ cs[0]? = some (pv L gf)) := by
        obtain ⟨r1, r2, r3, r4, r5⟩ := HR.out
        refine ⟨?_, ?_, ?_, hbel.grown hg4 (by omega) (by simp), r4, r2, r5⟩
        · rw [hg4.block _ (by omega) (by simp)]; exact r1
        · rw [hg4.block _ (by omega) (by simp)]; exact r3
        · rw [row_of_own hown4, toList_madeCells_one]; simp [bcells]
      clear hown4 hg4 HR hbel k1 k2 hgd
      go_wp2
      go_loopw [65] (fun i wx => ∃ (t : Nat) (X : List Int), t ≤ M ∧ i = .int .i64 t ∧ Hid (X.length = M ∧ wx.heap[gd]? = some (.cells (bcells X).toArray 5 (0, 0)) ∧ Upd [gd] w4 wx)) (fun i _ => M - (intOf i).toNat)
      case atStart => exact ⟨0, List.replicate M 0, Nat.zero_le _, rfl, by simp, A4.out.2.2.1, Upd.refl _ _⟩
      case round =>
        obtain ⟨t, X, ht, rfl, HT⟩ := hrel
        by_cases htl : t < M
        · have k1 : wr.cell? ⟨gd, t, none⟩ = some (.int .u8 (X.getD t 0)) := bcells_cell HT.out.2.1 (by rw [HT.out.1]; exact htl)
          have k2 : wr.frozen? ⟨gd, t, none⟩ = false := frozen_of_row _ _ _ _ _ HT.out.2.1
          go_wp2
          go_roundw
          case rel =>
            obtain ⟨q1, q3, q4⟩ := HT.out
            exact ⟨t + 1, X.set t _, by omega, by go_num, by simpa using q1, bcells_set q3 _, q4.setCell (by simp) _⟩
          case measure => simp [intOf]; omega
        · obtain ⟨q1, q3, q4⟩ := HT.out
          obtain ⟨r1, r2, r3, r4, r5, r6, r7⟩ := A4.out
          have hw4 := lt_of_block r3
          have hsz4 := q4.size
          have o4 : ∀ k, k < gd → wr.heap[k]? = w4.heap[k]? := fun k hk => q4.block k (by omega) (by simp; omega)
          have s1 := (o4 w.heap.size (by omega)).trans r1
          have s2 := (o4 gp (by omega)).trans r2
          have s3 := Upd.below r4 q4 (by simp; omega) (by omega)
          have hgd := lt_of_block q3
          have A5 : Hid (wr.heap[w.heap.size]? = some (.cells cs.toArray 36 (0, 0)) ∧ wr.heap[gp]? = some (.cells (bcells (List.replicate L (a1 : Int))).toArray 5 (0, 0)) ∧ wr.heap[gd]? = some (.cells (bcells X).toArray 5 (0, 0)) ∧ Below w.heap.size w wr ∧ gp < gd ∧ cs[m - 1]? = some (pv L gp) ∧ cs[0]? = some (pv L gf) ∧ X.length = M) := ⟨s1, s2, q3, s3, r5, r6, r7, q1⟩
          clear HT A4 q1 q3 q4 r1 r2 r3 r4 r5 r6 r7 s1 s2 s3 o4
          have hqe : (a2 : Int) % 2 = (q : Int) := by have := HQ.out; omega
          have hmm := @run_makeMap Ybad.prog
          have hn36 := hNil36
          obtain ⟨j5, hj5, _⟩ := Option.map_eq_some_iff.1 Ybad.size5'
          have hpn := fun (W : World) (a : Addr) => run_neq_ptr_same (P := Ybad.prog) W a Ybad.underlying62 hj5
          cases a3
          · go_wp2_with fail
            obtain ⟨s1, s2, s3, s4, s5, s6, s7, s8⟩ := A5.out
            refine (readPage_spare_ok _ _ wr.heap.size w.heap.size gd gp M m L q 0 aE X (List.replicate L (a1 : Int)) cs _ (slaid_of (z := wr.heap.size + 1) (by simp) ((Below.heap_alloc _ _ _ (by omega)).trans s1) hcs s6 (heap_alloc_new _ _) ((Below.heap_alloc _ _ _ hgd).trans s3) ((Below.heap_alloc _ _ _ (by omega)).trans s2) (cell_alloc _ ((s4.cell h2w).trans HE.out.1)) s8 (by simp) (by omega) (by omega) (by omega) (by omega) (by omega) (by omega) (by omega) (by omega) (by omega) h2w (by omega) hm1 hm3 rfl rfl rfl rfl) (by omega) (by omega) (by omega) hL1 hL2 (by omega)).mono ?_
            rintro e w' ⟨⟨lfile, lcount, lspare, lsp, lpage, lupd⟩, rfl⟩
            obtain ⟨go, co, gl, cl, fl1, fl2, fl3⟩ := lfile
            have c2 : w'.cell? ⟨wr.heap.size, 2, none⟩ = some (.slice (some ⟨go, 0, none⟩) 1 co) := by rw [cell_of_row _ _ _ _ _ _ fl1]; rfl
            rw [show ((q * 4096 : Nat) : Int) = (q : Int) * 4096 by omega] at fl2
            have ksp : w'.cell? ⟨w.heap.size, m - 1, none⟩ = some (.slice none 0 0) := by
              rw [cell_of_row _ _ _ _ _ _ lsp]; simp [hcs, show m - 1 < m by omega]
            have k0 : 1 < m → w'.cell? ⟨w.heap.size, 0, none⟩ = some (.slice (some ⟨gf, 0, none⟩) L L) := fun h1m => by
              rw [cell_of_row _ _ _ _ _ _ lsp]
              have := s7
              simpa [List.getElem?_set, show ¬ m - 1 = 0 by omega] using this
            have hb' : Below w.heap.size w w' := Upd.below ((((s4.alloc (by omega) _).alloc (by simp; omega) _).alloc (by simp; omega) _).alloc (by simp; omega) _) lupd (by intro x hx; simp at hx; omega) (by simp; omega)
            have hdat : w'.heap[gd]? = some (.cells (bcells X).toArray 5 (0, 0)) := by
              rw [lupd.block _ (by simp; omega) (by simp; omega), Below.heap_alloc _ _ _ (by simp; omega), Below.heap_alloc _ _ _ (by simp; omega), Below.heap_alloc _ _ _ (by simp; omega), Below.heap_alloc _ _ _ hgd]; exact s3
            have HD : Hid (Below w.heap.size w w' ∧ w'.heap[gd]? = some (.cells (bcells X).toArray 5 (0, 0)) ∧ w'.heap[gp]? = some (.cells (bcells ((X.drop (q * 4096)).take L)).toArray 5 (0, 0)) ∧ X.length = M) := ⟨hb', hdat, lpage, s8⟩
            clear fl1 fl3 lupd hdat hb' lpage lsp s1 s2 s3 s4 s5 s6 s7 s8 A5 hmm
            have hg2 : ((L : Int) != 4096) = false := by simp; omega
            by_cases h1m : 1 < m
            · have k0' := k0 h1m
              clear k0
              have hg1 : decide (1 < (m : Int)) = true := by simp; omega
              go_wp2
              go_quiet (fail)
              go_wp2
              go_quiet (fail)
              clear k0' hg1 h1m
              go_wp2
              generalize hBw : wr.heap.size = Bw at *
              clear hBw
              go_loopw [27] (fun i wv => ∃ t : Nat, t ≤ 4096 ∧ i = .int .i64 t ∧ Below w.heap.size w wv ∧ Hid (wv.heap[gd]? = some (.cells (bcells X).toArray 5 (0, 0)) ∧ wv.heap[gp]? = some (.cells (bcells ((X.drop (q * 4096)).take L)).toArray 5 (0, 0)))) (fun i _ => 4096 - (intOf i).toNat)
              case atStart => exact ⟨0, Nat.zero_le _, rfl, below_drewN HD.out.1 _, HD.out.2.1, HD.out.2.2.1⟩
              case round =>
                obtain ⟨t, ht, rfl, hbv, HV⟩ := hrel
                clear c2 fl2 ksp lcount lspare
                have hXM := HD.out.2.2.2
                by_cases htl : t < 4096
                · have d1 : wr.cell? ⟨gd, q * 4096 + t, none⟩ = some (.int .u8 (X.getD (q * 4096 + t) 0)) := bcells_cell HV.out.1 (by omega)
                  have d2 : wr.cell? ⟨gp, t, none⟩ = some (.int .u8 (X.getD (q * 4096 + t) 0)) := by
                    rw [bcells_cell HV.out.2 (by simp; omega)]
                    simp [List.getElem?_drop, show t < L by omega]
                  clear hXM
                  go_wp2
                  go_region
                  all_goals
                    go_wp2
                    go_roundw
                    case rel => exact ⟨t + 1, by omega, by go_num, hbv.drew, HV⟩
                    case measure => simp [intOf]; omega
                · go_wp2
                  go_ret
                  exact ⟨rfl, hbv⟩
            · clear k0
              have hg1 : decide (1 < (m : Int)) = false := by simp; omega
              go_wp2
              go_quiet (fail)
              go_wp2
              go_quiet (fail)
              clear hg1 h1m
              go_wp2
              generalize hBw : wr.heap.size = Bw at *
              clear hBw
              go_loopw [27] (fun i wv => ∃ t : Nat, t ≤ 4096 ∧ i = .int .i64 t ∧ Below w.heap.size w wv ∧ Hid (wv.heap[gd]? = some (.cells (bcells X).toArray 5 (0, 0)) ∧ wv.heap[gp]? = some (.cells (bcells ((X.drop (q * 4096)).take L)).toArray 5 (0, 0)))) (fun i _ => 4096 - (intOf i).toNat)
              case atStart => exact ⟨0, Nat.zero_le _, rfl, below_drewN HD.out.1 _, HD.out.2.1, HD.out.2.2.1⟩
              case round =>
                obtain ⟨t, ht, rfl, hbv, HV⟩ := hrel
                clear c2 fl2 ksp lcount lspare
                have hXM := HD.out.2.2.2
                by_cases htl : t < 4096
                · have d1 : wr.cell? ⟨gd, q * 4096 + t, none⟩ = some (.int .u8 (X.getD (q * 4096 + t) 0)) := bcells_cell HV.out.1 (by omega)
                  have d2 : wr.cell? ⟨gp, t, none⟩ = some (.int .u8 (X.getD (q * 4096 + t) 0)) := by
                    rw [bcells_cell HV.out.2 (by simp; omega)]
                    simp [List.getElem?_drop, show t < L by omega]
                  clear hXM
                  go_wp2
                  go_region
                  all_goals
                    go_wp2
                    go_roundw
                    case rel => exact ⟨t + 1, by omega, by go_num, hbv.drew, HV⟩
                    case measure => simp [intOf]; omega
                · go_wp2
                  go_ret
                  exact ⟨rfl, hbv⟩
          · go_wp2_with fail
            refine (errNew_any _ _).mono ?_
            rintro e w5 ⟨rfl, rfl⟩
            go_wp2_with fail
            obtain ⟨s1, s2, s3, s4, s5, s6, s7, s8⟩ := A5.out
            refine (readPage_spare_fail _ _ wr.heap.size w.heap.size gd gp M m L q 0 aE ⟨wr.heap.size + 1, 0, none⟩ X (List.replicate L (a1 : Int)) cs _ (slaid_of (z := wr.heap.size + 1 + 1) (by simp) ((Below.heap_alloc _ _ _ (by simp; omega)).trans ((Below.heap_alloc _ _ _ (by omega)).trans s1)) hcs s6 ((Below.heap_alloc _ _ _ (by simp)).trans (heap_alloc_new _ _)) ((Below.heap_alloc _ _ _ (by simp; omega)).trans ((Below.heap_alloc _ _ _ hgd).trans s3)) ((Below.heap_alloc _ _ _ (by simp; omega)).trans ((Below.heap_alloc _ _ _ (by omega)).trans s2)) (cell_alloc _ (cell_alloc _ ((s4.cell h2w).trans HE.out.1))) s8 (by simp) (by omega) (by omega) (by omega) (by omega) (by omega) (by omega) (by omega) (by omega) (by omega) h2w (by omega) hm1 hm3 rfl rfl rfl rfl) (by omega) (by omega) (by omega) hL1 hL2 cE #[.string { data := #[122, 122, 32, 102, 97, 105, 108, 105, 110, 103, 32, 114, 101, 97, 100] }] tE 83 (fun e => by have := congrArg Addr.block e; simp at this; omega) ?_ ?_ (by simp; omega) (by simp; omega)).mono ?_
            · rw [Below.heap_alloc _ _ _ (by simp; omega), Below.heap_alloc _ _ _ (by simp; omega), Below.heap_alloc _ _ _ (by simp; omega), Below.heap_alloc _ _ _ (by simp; omega), Below.heap_alloc _ _ _ (by omega), s4.block _ haE]; exact HE.out.2
            · rw [Below.heap_alloc _ _ _ (by simp), Below.heap_alloc _ _ _ (by simp), Below.heap_alloc _ _ _ (by simp)]
              exact heap_alloc2_new _ _ _
            rintro e w' ⟨⟨lfile, lcount, lspare, lsp, lpage, lupd⟩, rfl⟩
            obtain ⟨go, co, gl, cl, fl1, fl2, fl3⟩ := lfile
            have c2 : w'.cell? ⟨wr.heap.size, 2, none⟩ = some (.slice (some ⟨go, 0, none⟩) 1 co) := by rw [cell_of_row _ _ _ _ _ _ fl1]; rfl
            rw [show ((q * 4096 : Nat) : Int) = (q : Int) * 4096 by omega] at fl2
            have ksp : w'.cell? ⟨w.heap.size, m - 1, none⟩ = some (.slice none 0 0) := by
              rw [cell_of_row _ _ _ _ _ _ lsp]; simp [hcs, show m - 1 < m by omega]
            have k0 : 1 < m → w'.cell? ⟨w.heap.size, 0, none⟩ = some (.slice (some ⟨gf, 0, none⟩) L L) := fun h1m => by
              rw [cell_of_row _ _ _ _ _ _ lsp]
              have := s7
              simpa [List.getElem?_set, show ¬ m - 1 = 0 by omega] using this
            have hb' : Below w.heap.size w w' := Upd.below (((((s4.alloc (by omega) _).alloc (by simp; omega) _).alloc (by simp; omega) _).alloc (by simp; omega) _).alloc (by simp; omega) _) lupd (by intro x hx; simp at hx; omega) (by simp; omega)
            have HD : Hid (Below w.heap.size w w' ∧ w'.heap[gp]? = some (.cells (bcells (List.replicate L (a1 : Int))).toArray 5 (0, 0))) := ⟨hb', lpage⟩
            obtain ⟨it, hit, hcmp⟩ := Option.map_eq_some_iff.1 Ybad.comp81
            obtain ⟨jt, hjt, _⟩ := Option.map_eq_some_iff.1 Ybad.size83
            have hie := fun (W : World) (a : Addr) => run_neq_iface_ptr_same (P := Ybad.prog) W a Ybad.underlying28 Ybad.underlying81 hit hcmp hjt
            clear fl1 fl3 lupd hb' lpage lsp s1 s2 s3 s4 s5 s6 s7 s8 A5 hmm
            have hg2 : ((L : Int) != 4096) = false := by simp; omega
            by_cases h1m : 1 < m
            · have k0' := k0 h1m
              clear k0
              have hg1 : decide (1 < (m : Int)) = true := by simp; omega
              go_wp2
              go_quiet (fail)
              go_wp2
              go_quiet (fail)
              clear k0' hg1 h1m
              go_wp2
              generalize hBw : wr.heap.size = Bw at *
              clear hBw
              go_loopw [26] (fun i wv => ∃ t : Nat, t ≤ 4096 ∧ i = .int .i64 t ∧ Below w.heap.size w wv ∧ Hid (wv.heap[gp]? = some (.cells (bcells (List.replicate L (a1 : Int))).toArray 5 (0, 0)))) (fun i _ => 4096 - (intOf i).toNat)
              case atStart => exact ⟨0, Nat.zero_le _, rfl, below_drewN HD.out.1 _, HD.out.2⟩
              case round =>
                obtain ⟨t, ht, rfl, hbv, HV⟩ := hrel
                clear c2 fl2 ksp lcount lspare
                by_cases htl : t < 4096
                · have d2 : wr.cell? ⟨gp, t, none⟩ = some (.int .u8 (a1 : Int)) := by
                    rw [bcells_cell HV.out (by simp; omega)]
                    simp [List.getElem?_replicate, show t < L by omega]
                  go_wp2
                  go_roundw
                  case rel => exact ⟨t + 1, by omega, by go_num, hbv, HV⟩
                  case measure => simp [intOf]; omega
                · go_wp2
                  go_ret
                  exact ⟨rfl, hbv⟩
            · clear k0
              have hg1 : decide (1 < (m : Int)) = false := by simp; omega
              go_wp2
              go_quiet (fail)
              go_wp2
              go_quiet (fail)
              clear hg1 h1m
              go_wp2
              generalize hBw : wr.heap.size = Bw at *
              clear hBw
              go_loopw [26] (fun i wv => ∃ t : Nat, t ≤ 4096 ∧ i = .int .i64 t ∧ Below w.heap.size w wv ∧ Hid (wv.heap[gp]? = some (.cells (bcells (List.replicate L (a1 : Int))).toArray 5 (0, 0)))) (fun i _ => 4096 - (intOf i).toNat)
              case atStart => exact ⟨0, Nat.zero_le _, rfl, below_drewN HD.out.1 _, HD.out.2⟩
              case round =>
                obtain ⟨t, ht, rfl, hbv, HV⟩ := hrel
                clear c2 fl2 ksp lcount lspare
                by_cases htl : t < 4096
                · have d2 : wr.cell? ⟨gp, t, none⟩ = some (.int .u8 (a1 : Int)) := by
                    rw [bcells_cell HV.out (by simp; omega)]
                    simp [List.getElem?_replicate, show t < L by omega]
                  go_wp2
                  go_roundw
                  case rel => exact ⟨t + 1, by omega, by go_num, hbv, HV⟩
                  case measure => simp [intOf]; omega
                · go_wp2
                  go_ret
                  exact ⟨rfl, hbv⟩
end Go.Proofs.YbulkczrmDoor
