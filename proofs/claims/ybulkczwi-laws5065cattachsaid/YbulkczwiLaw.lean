import Derived.Test.YbulkczwiTail
namespace Go.Proofs.Ybulkczwi
open Go.RowKit
open Go.ChangeMaps (setBlock)
set_option linter.unusedVariables false
set_option linter.unusedSimpArgs false
set_option maxRecDepth 40000 in
set_option maxHeartbeats 8000000 in
theorem law_any (w : World) (a0 a1 a2 : Option Addr) (n c0 np c1 m c2 : Nat) (pp : Nat → Option Addr) (pn pc : Nat → Nat) (Pr : Nat → List Int) (pre : List Int) (Of : Nat → Nat) (h : InL w a0 n pp pn pc Pr a1 np pre a2 m Of) (hn : n ≤ 300) (hnp : np ≤ 1024) (hm : m ≤ 1024) :
    Calls Yba.prog 3 #[.slice a0 n c0, .slice a1 np c1, .slice a2 m c2] w fun e w' => e = .returned (.bool true) ∧ Below w.heap.size w w' := by
  have HI : Hid (InL w a0 n pp pn pc Pr a1 np pre a2 m Of) := h
  clear h
  go_enter Yba.func3, Yba.ntmps3
  go_wp2
  go_loop [7] (fun i => ∃ k : Nat, k ≤ n ∧ i = .int .i64 k ∧ Hid (∀ j, j < k → pn j ≤ 1024)) (fun i => n - (intOf i).toNat)
  case atStart => exact ⟨0, Nat.zero_le _, rfl, fun j hj => absurd hj (Nat.not_lt_zero _)⟩
  case round =>
    obtain ⟨k, hk, rfl, HL⟩ := hrel
    by_cases hlt : k < n
    · obtain ⟨b, o, rfl, hc⟩ := HI.out.img (by omega)
      have hck := hc k hlt
      have hmx := HI.out.mx k hlt
      clear hc
      by_cases h1 : 1024 < pn k
      · go_wp2
        go_ret
        exact ⟨rfl, Below.refl _ _⟩
      · go_wp2
        go_round
        case rel =>
          refine ⟨k + 1, hlt, by go_num, fun j hj => ?_⟩
          by_cases e : j = k
          · subst e; omega
          · exact HL.out j (by omega)
        case measure => simp [intOf]; omega
    · obtain rfl : k = n := by omega
      have hmk : (Instr.makeMap 27 none).run Yba.prog w = .ok (.map (some w.heap.size)) (w.alloc (.map #[] 0)) := rfl
      have HB := hid (B2.start w Pr)
      clear hlt hk
      go_wp2
      clear hmk
      generalize (w.alloc (.map #[] 0)).alloc (.cells #[.slice none 0 0, .map (some w.heap.size), .slice none 0 0] 31) = W1 at HB ⊢
      generalize w.heap.size + 1 = cb at HB ⊢
      obtain ⟨pm, hpm⟩ : ∃ pm, pm = w.heap.size := ⟨_, rfl⟩
      have HB' : Hid (∃ τ, B2 w W1 τ cb pm 0 0 (.slice none 0 0) (fun _ => .slice none 0 0) Pr) := by rw [hpm]; exact HB.out
      rw [← hpm]
      clear HB hpm
      go_loopw [10] (fun s wr => ∃ i : Nat, i ≤ k ∧ s = .int .i64 i ∧ Hid (∃ τ vI Pv, B2 w wr τ cb pm i i vI Pv Pr)) (fun s _ => k - (intOf s).toNat)
      case atStart =>
        obtain ⟨τ, h⟩ := HB'.out
        exact ⟨0, Nat.zero_le _, rfl, τ, _, _, h⟩
      case round =>
        obtain ⟨i, hi, rfl, HR⟩ := hrel
        by_cases hlt : i < k
        · obtain ⟨τ1, vI, Pv, HR1⟩ := HR.out
          have HR2 : Hid (B2 w wr τ1 cb pm i i vI Pv Pr) := HR1
          clear HR1 HR
          go_wp2_with fail
          refine (digest_any i wr (by omega)).mono ?_
          rintro e w1 ⟨rfl, hb1⟩
          obtain ⟨db, hdb⟩ : ∃ db, db = w1.heap.size := ⟨_, rfl⟩
          obtain ⟨W2, hW2⟩ : ∃ W2, W2 = w1.alloc (.cells #[.string shaText, .string (aText i)] 33) := ⟨_, rfl⟩
          have H3 : Hid (B2 w W2 (mark τ1 db 1) cb pm i i vI Pv Pr ∧ Blk W2 (mark τ1 db 1) 1 db (.cells #[.string shaText, .string (aText i)] 33 (0, 0))) := by
            rw [hW2, hdb]
            exact ⟨(HR2.out.below hb1).step (Stp.marked ((Below.refl _ w1).alloc (Nat.le_refl _) _) 1 τ1 (Nat.le_refl _) 1) (Or.inl rfl), ⟨heap_alloc_new w1 _, mark_new _ _ _⟩⟩
          have hup := pos_put H3.out.1.pos.at' (by omega)
          obtain ⟨W3, hW3⟩ : ∃ W3, W3 = setBlock W2 pm (.map (posEs (i + 1)) (i + 1)) := ⟨_, rfl⟩
          have q1 : W2.cell? ⟨cb, 1, none⟩ = some (.map (some pm)) := (H3.out.1.cat.cell rfl).1
          have q2 : W2.cell? ⟨db, 0, none⟩ = some (.string shaText) := (H3.out.2.cell rfl).1
          have q3 : W2.cell? ⟨db, 1, none⟩ = some (.string (aText i)) := (H3.out.2.cell rfl).1
          have H4 : Hid (B2 w W3 (mark τ1 db 1) cb pm i (i + 1) vI Pv Pr ∧ Blk W3 (mark τ1 db 1) 1 db (.cells #[.string shaText, .string (aText i)] 33 (0, 0))) := by
            have h3 : Stp 3 W2 (mark τ1 db 1) W3 (mark τ1 db 1) := by
              have := Stp.setBlock (W := W2) (τ := mark τ1 db 1) (b := pm) (.map (posEs (i + 1)) (i + 1))
              rw [H3.out.1.pos.tag] at this
              rw [hW3]; exact this
            rw [hW3]
            exact ⟨H3.out.1.posd, hW3 ▸ H3.out.2.step h3 (by omega)⟩
          rw [← hW3] at hup
          clear HR2 hb1
          rw [hW2] at q1 q2 q3 hup
          rw [hdb] at q2 q3
          clear hW3
          obtain ⟨b, o, rfl, hc⟩ := HI.out.img (by omega)
          have hck : W3.cell? ⟨b, o + i, none⟩ = some (.slice (pp i) (pn i) (pc i)) := cell_in H4.out.1.bel (hc i hlt)
          clear hc
          have hpn := HL.out i hlt
          obtain ⟨i0, z0, hi0, hz0, hz1, hz2, hz3⟩ := el29.info
          go_wp2_with (first | (at_make; refine wpList_make_own _ rfl _ _ 29 rfl 0 40 i0 z0 9 Yba.underlying29 hi0 hz0 hz1 _ _ _ (pn i) rfl rfl rfl (by rw [hz2]; omega) (by unfold maxLen; omega) (Nat.zero_le _) ?_))
          rw [← hdb]
          intro w4 hown hg
          have H5 : Hid (∃ τ, B2 w w4 τ cb pm i (i + 1) vI Pv Pr ∧ Blk w4 τ 1 db (.cells #[.string shaText, .string (aText i)] 33 (0, 0)) ∧ Has w4 τ (100 + i) 40 9 (.slice (some ⟨W3.heap.size, 0, none⟩) 0 (pn i)) 0 []) := by
            have hb : Below W3.heap.size W3 w4 := (Below.refl _ _).grown hg (Nat.le_refl _) (by simp)
            have hs := Stp.marked hb 1 (mark τ1 db 1) (Nat.le_refl _) (100 + i)
            have hs' := Stp.marked hb 9 (mark τ1 db 1) (Nat.le_refl _) (100 + i)
            exact ⟨_, H4.out.1.step hs (Or.inl rfl), H4.out.2.step hs' (by omega), Has.made (W := W3) hown⟩
          clear hown hg H3 H4 hup q1 q2 q3 hck hW2 hdb hi0 hz0 hz1 hz2 hz3 i0 z0
          generalize W3.heap.size = gp at H5 ⊢
          obtain ⟨ppi, hppi⟩ : ∃ ppi, ppi = pp i := ⟨_, rfl⟩
          have HPI : Hid (ppi = pp i) := hppi
          have hck : w4.cell? ⟨b, o + i, none⟩ = some (.slice ppi (pn i) (pc i)) := by
            obtain ⟨τ5, h5, _⟩ := H5.out
            obtain ⟨b', o', e', hc⟩ := HI.out.img (by omega)
            cases e'
            rw [hppi]
            exact cell_in h5.bel (hc i hlt)
          clear hppi
          go_wp2
          clear hck
          go_loopw [12, 86] (fun s t wr => ∃ j g c : Nat, j ≤ pn i ∧ t = .int .i64 j ∧ s = .slice (some ⟨g, 0, none⟩) j c ∧ Hid (∃ τ, B2 w wr τ cb pm i (i + 1) vI Pv Pr ∧ Blk wr τ 1 db (.cells #[.string shaText, .string (aText i)] 33 (0, 0)) ∧ Has wr τ (100 + i) 40 9 (.slice (some ⟨g, 0, none⟩) j c) j (descs ((Pr i).take j)))) (fun _ t _ => pn i - (intOf t).toNat)
          case atStart =>
            obtain ⟨τ5, h5⟩ := H5.out
            exact ⟨0, gp, pn i, Nat.zero_le _, rfl, rfl, τ5, h5⟩
          case round =>
            obtain ⟨j, g, c, hj, rfl, rfl, HM⟩ := hrel
            by_cases hjl : j < pn i
            · obtain ⟨τ6, h6⟩ := HM.out
              obtain ⟨b3, o3, hpp, hcj⟩ := (HI.out.pri i hlt).at' (by omega)
              obtain rfl : ppi = some ⟨b3, o3, none⟩ := HPI.out.trans hpp
              clear hpp HPI
              have hcell : wr.cell? ⟨b3, o3 + j, none⟩ = some (.int .u16 ((Pr i).getD j 0)) := cell_in h6.1.bel (hcj j hjl)
              have hx := (HI.out.pri i hlt).get hjl
              have HX : Hid (descs ((Pr i).take (j + 1)) = descs ((Pr i).take j) ++ dCells ((Pr i).getD j 0)) := by
                have hl : j < (Pr i).length := by rw [(HI.out.pri i hlt).len]; exact hjl
                have e : (Pr i).getD j 0 = (Pr i)[j] := by simp [hl]
                rw [e, List.take_succ_eq_append_getElem hl, descs_append, descs_one]
                exact rfl
              generalize (Pr i).getD j 0 = x at hcell hx HX
              have hwx : IntKind.i64.wrap x = x := i64_in (by omega)
              obtain ⟨τ7, hτ7⟩ : ∃ τ7, τ7 = mark τ6 wr.heap.size 1 := ⟨_, rfl⟩
              have H7 : Hid (B2 w (wr.alloc (.cells (dCells x).toArray 40)) τ7 cb pm i (i + 1) vI Pv Pr ∧ Blk (wr.alloc (.cells (dCells x).toArray 40)) τ7 1 db (.cells #[.string shaText, .string (aText i)] 33 (0, 0)) ∧ Has (wr.alloc (.cells (dCells x).toArray 40)) τ7 (100 + i) 40 9 (.slice (some ⟨g, 0, none⟩) j c) j (descs ((Pr i).take j)) ∧ (wr.alloc (.cells (dCells x).toArray 40)).heap[wr.heap.size]? = some (.cells (dCells x).toArray 40 (0, 0))) := by
                have hs := Stp.marked ((Below.refl _ wr).alloc (Nat.le_refl _) (.cells (dCells x).toArray 40)) 1 τ6 (Nat.le_refl _) 1
                have hs' := Stp.marked ((Below.refl _ wr).alloc (Nat.le_refl _) (.cells (dCells x).toArray 40)) 9 τ6 (Nat.le_refl _) 1
                rw [hτ7]
                exact ⟨h6.1.step hs (Or.inl rfl), h6.2.1.step hs' (by omega), h6.2.2.step hs (by omega), heap_alloc_new wr _⟩
              clear hcj h6 HM hτ7
              have hja : (0 : Int) ≤ (j : Int) := by omega
              have hjb : (j : Int) < (pn i : Int) := by omega
              go_wp2_with (first | (at_builtin; refine wpList_app rfl (.tmp 90) (.tmp 94) el29 rfl H7.out.2.2.1 rfl ⟨wr.heap.size, 0, none⟩ 1 1 rfl (dCells x) rfl (news_of H7.out.2.2.2) (dCells_one _) (by omega) (Nat.succ_pos _) ?_; intro g9 c9 W9 HN))
              have HF : Hid (∃ τ, B2 w W9 τ cb pm i (i + 1) vI Pv Pr ∧ Blk W9 τ 1 db (.cells #[.string shaText, .string (aText i)] 33 (0, 0)) ∧ Has W9 τ (100 + i) 40 9 (.slice (some ⟨g9, 0, none⟩) (j + 1) c9) (j + 1) (descs ((Pr i).take (j + 1)))) := by
                rw [HX.out]
                exact ⟨_, H7.out.1.step HN.out.2 (Or.inr (Nat.le_refl _)), H7.out.2.1.step HN.out.2 (by omega), HN.out.1⟩
              clear HN H7 HX hcell hwx hx hja hjb
              go_roundw
              case rel => exact ⟨j + 1, g9, c9, hjl, by go_num, rfl, HF.out⟩
              case measure => simp [intOf]; omega
            · obtain rfl : j = pn i := by omega
              obtain ⟨τ6, h6⟩ := HM.out
              have hL := (HI.out.pri i hlt).len
              have h6c := h6.2.2
              rw [List.take_of_length_le (by rw [hL]; exact Nat.le_refl _)] at h6c
              obtain ⟨τ7, hτ7⟩ : ∃ τ7, τ7 = mark τ6 wr.heap.size 1 := ⟨_, rfl⟩
              have H7 : Hid (B2 w (wr.alloc (.cells (imgCells i (.slice (some ⟨g, 0, none⟩) (pn i) c)).toArray 43)) τ7 cb pm i (i + 1) vI Pv Pr ∧ Has (wr.alloc (.cells (imgCells i (.slice (some ⟨g, 0, none⟩) (pn i) c)).toArray 43)) τ7 (100 + i) 40 9 (.slice (some ⟨g, 0, none⟩) (pn i) c) (pn i) (descs (Pr i)) ∧ (wr.alloc (.cells (imgCells i (.slice (some ⟨g, 0, none⟩) (pn i) c)).toArray 43)).heap[wr.heap.size]? = some (.cells (imgCells i (.slice (some ⟨g, 0, none⟩) (pn i) c)).toArray 43 (0, 0)) ∧ (Pr i).length = pn i) := by
                have hs := Stp.marked ((Below.refl _ wr).alloc (Nat.le_refl _) (.cells (imgCells i (.slice (some ⟨g, 0, none⟩) (pn i) c)).toArray 43)) 1 τ6 (Nat.le_refl _) 1
                rw [hτ7]
                exact ⟨h6.1.step hs (Or.inl rfl), h6c.step hs (by omega), heap_alloc_new wr _, hL⟩
              have q0 : wr.cell? ⟨cb, 0, none⟩ = some vI := (h6.1.cat.cell rfl).1
              have q1 : wr.cell? ⟨db, 0, none⟩ = some (.string shaText) := (h6.2.1.cell rfl).1
              have q2 : wr.cell? ⟨db, 1, none⟩ = some (.string (aText i)) := (h6.2.1.cell rfl).1
              clear h6 h6c HM hτ7 hL hj hjl
              go_wp2_with (first | (at_builtin; refine wpList_app rfl (.tmp 98) (.tmp 104) el28 rfl H7.out.1.img rfl ⟨wr.heap.size, 0, none⟩ 1 1 rfl (imgCells i (.slice (some ⟨g, 0, none⟩) (pn i) c)) rfl (news_of H7.out.2.2.1) (img_one _ _) (by omega) (Nat.succ_pos _) ?_; intro g9 c9 W9 HN; have k0 := (H7.out.1.cat.step HN.out.2 (by omega)).cell (i := 0) rfl; have k1 := k0.1; have k2 := k0.2; clear k0))
              have HF : Hid (∃ τ vI Pv, B2 w (W9.setCell ⟨cb, 0, none⟩ (.slice (some ⟨g9, 0, none⟩) (i + 1) c9)) τ cb pm (i + 1) (i + 1) vI Pv Pr) := by
                exact ⟨_, _, _, H7.out.1.image H7.out.2.2.2 H7.out.2.1 HN.out.1 HN.out.2⟩
              clear HN H7 q0 q1 q2 k1 k2
              go_roundw
              case rel => exact ⟨i + 1, hlt, by go_num, HF.out⟩
              case measure => simp [intOf]; omega
        · obtain rfl : i = k := by omega
          obtain ⟨τ1, vI, Pv, h1⟩ := HR.out
          have H4 : Hid (∃ τ vU, B4 w wr τ cb pm i vI vU Pv Pr ([] : List Int)) := ⟨_, _, h1.b4⟩
          clear h1 HR HB' hi hlt
          go_wp2
          go_loopw [109] (fun s wr => ∃ j : Nat, j ≤ np ∧ s = .int .i64 j ∧ Hid (∃ τ vU, B4 w wr τ cb pm i vI vU Pv Pr (pre.take j))) (fun s _ => np - (intOf s).toNat)
          case atStart => exact ⟨0, Nat.zero_le _, rfl, H4.out⟩
          case round =>
            obtain ⟨j, hj, rfl, HU⟩ := hrel
            by_cases hjl : j < np
            · obtain ⟨τ6, vU, h6⟩ := HU.out
              obtain ⟨b1, o1, rfl, hc1⟩ := HI.out.pre.at' (by omega)
              have hcell : wr.cell? ⟨b1, o1 + j, none⟩ = some (.int .u16 (pre.getD j 0)) := cell_in h6.bel (hc1 j hjl)
              have hx := HI.out.pre.get hjl
              have HX : Hid (pre.take (j + 1) = pre.take j ++ [pre.getD j 0] ∧ (pre.take j).length = j) := by
                have hl : j < pre.length := by rw [HI.out.pre.len]; exact hjl
                have e : pre.getD j 0 = pre[j] := by simp [hl]
                rw [e, List.take_succ_eq_append_getElem hl]
                exact ⟨rfl, by rw [List.length_take]; omega⟩
              generalize pre.getD j 0 = x at hcell hx HX
              have hwx : IntKind.i64.wrap x = x := i64_in (by omega)
              have q2 : wr.cell? ⟨cb, 2, none⟩ = some vU := (h6.cat.cell rfl).1
              obtain ⟨τ7, hτ7⟩ : ∃ τ7, τ7 = mark τ6 wr.heap.size 1 := ⟨_, rfl⟩
              have H7 : Hid (B4 w (wr.alloc (.cells (dCells x).toArray 40)) τ7 cb pm i vI vU Pv Pr (pre.take j) ∧ Has (wr.alloc (.cells (dCells x).toArray 40)) τ7 5 40 9 vU j (descs (pre.take j)) ∧ (wr.alloc (.cells (dCells x).toArray 40)).heap[wr.heap.size]? = some (.cells (dCells x).toArray 40 (0, 0))) := by
                have hs := Stp.marked ((Below.refl _ wr).alloc (Nat.le_refl _) (.cells (dCells x).toArray 40)) 1 τ6 (Nat.le_refl _) 1
                rw [hτ7]
                have hb := h6.step hs (Or.inl rfl)
                have hu := hb.una
                rw [HX.out.2] at hu
                exact ⟨hb, hu, heap_alloc_new wr _⟩
              clear hc1 h6 HU hτ7 H4
              have hja : (0 : Int) ≤ (j : Int) := by omega
              have hjb : (j : Int) < (np : Int) := by omega
              go_wp2_with (first | (at_builtin; refine wpList_app rfl (.tmp 114) (.tmp 118) el29 rfl H7.out.2.1 rfl ⟨wr.heap.size, 0, none⟩ 1 1 rfl (dCells x) rfl (news_of H7.out.2.2) (dCells_one _) (by omega) (Nat.succ_pos _) ?_; intro g9 c9 W9 HN; have k0 := (H7.out.1.cat.step HN.out.2 (by omega)).cell (i := 2) rfl; have k1 := k0.1; have k2 := k0.2; clear k0))
              have HF : Hid (∃ τ vU, B4 w (W9.setCell ⟨cb, 2, none⟩ (.slice (some ⟨g9, 0, none⟩) (j + 1) c9)) τ cb pm i vI vU Pv Pr (pre.take (j + 1))) := ⟨_, _, H7.out.1.more HX.out.1 HX.out.2 HN.out.1 HN.out.2⟩
              clear HN H7 HX hcell hwx hx hja hjb k1 k2 q2
              go_roundw
              case rel => exact ⟨j + 1, hjl, by go_num, HF.out⟩
              case measure => simp [intOf]; omega
            · obtain rfl : j = np := by omega
              obtain ⟨τ6, vU, h6⟩ := HU.out
              have hpl := HI.out.pre.len
              rw [List.take_of_length_le (by rw [hpl]; exact Nat.le_refl _)] at h6
              have H6 : Hid (B4 w wr τ6 cb pm i vI vU Pv Pr pre) := h6
              clear h6 HU H4 hpl hj hjl
              obtain ⟨i0, hi0, hz0, hz1, hz2⟩ := info_parts Yba.info3
              go_wp2_with (first | (at_make; refine wpList_make_full _ rfl _ _ 44 rfl 0 3 i0 (.int .i64 0) 1 Yba.underlying44 hi0 hz0 hz1 _ _ _ _ m rfl rfl (by omega) (by omega) (by rw [hz2]; omega) (by unfold maxLen; omega) (Nat.zero_le _) ?_))
              intro w7 hown7 hg7
              obtain ⟨key, hkey⟩ : ∃ key : Nat → Nat, key = fun x => Of x % (i + 3) := ⟨_, rfl⟩
              have H7 : Hid (∃ τ, B4 w w7 τ cb pm i vI vU Pv Pr pre ∧ Has w7 τ 6 3 1 (.slice (some ⟨wr.heap.size, 0, none⟩) m m) m (kpart m key 0)) := by
                have hb : Below wr.heap.size wr w7 := (Below.refl _ _).grown hg7 (Nat.le_refl _) (by simp)
                have hs := Stp.marked hb 1 τ6 (Nat.le_refl _) 6
                refine ⟨_, H6.out.step hs (Or.inl rfl), Has.made (W := wr) (B := 0) ?_⟩
                have := hown7
                rw [toList_madeCells_one] at this
                have e : kpart m key 0 = List.replicate m (.int .i64 0) := by
                  unfold kpart
                  apply List.ext_getElem?
                  intro q
                  by_cases hq : q < m <;> simp [hq]
                rw [e]
                simpa using this
              have HKE : Hid (key = fun x => Of x % (i + 3)) := hkey
              clear hown7 hg7 H6 hkey hi0 hz0 hz1 hz2 i0
              generalize wr.heap.size = gK at H7 ⊢
              obtain ⟨i1, z1, hi1, hy0, hy1, hy2, hy3⟩ := el45.info
              go_wp2_with (first | (at_make; refine wpList_make_own _ rfl _ _ 45 rfl 0 49 i1 z1 11 Yba.underlying45 hi1 hy0 hy1 _ _ _ m rfl rfl rfl (by rw [hy2]; omega) (by unfold maxLen; omega) (Nat.zero_le _) ?_))
              intro w8 hown8 hg8
              have H8 : Hid (∃ τ, B5 w w8 τ cb pm i m 0 gK w7.heap.size m vI vU Pv Pr pre key) := by
                obtain ⟨τ7, h7, h7k⟩ := H7.out
                have hb : Below w7.heap.size w7 w8 := (Below.refl _ _).grown hg8 (Nat.le_refl _) (by simp)
                have hs := Stp.marked hb 1 τ7 (Nat.le_refl _) 7
                exact ⟨_, h7.step hs (Or.inl rfl), h7k.step hs (by omega), Has.made (W := w7) hown8⟩
              clear hown8 hg8 H7 hi1 hy0 hy1 hy2 hy3 i1 z1
              generalize w7.heap.size = gM0 at H8 ⊢
              go_wp2
              go_loopw [18, 19] (fun s t wr => ∃ e gM cM : Nat, e ≤ m ∧ t = .int .i64 e ∧ s = .slice (some ⟨gM, 0, none⟩) e cM ∧ Hid (∃ τ, B5 w wr τ cb pm i m e gK gM cM vI vU Pv Pr pre key)) (fun _ t _ => m - (intOf t).toNat)
              case atStart => exact ⟨0, gM0, m, Nat.zero_le _, rfl, rfl, H8.out⟩
              case round =>
                obtain ⟨e, gM, cM, he, rfl, rfl, HE⟩ := hrel
                by_cases hel : e < m
                · obtain ⟨τ9, h9⟩ := HE.out
                  obtain ⟨b2, o2, rfl, hc2⟩ := HI.out.ear (by omega)
                  have hcell : wr.cell? ⟨b2, o2 + e * 2, none⟩ = some (.int .u16 (Of e)) := cell_in h9.b4.bel (hc2 e hel)
                  have hof := HI.out.of e hel
                  obtain ⟨i3, hi3⟩ : ∃ i3, i3 = i + 3 := ⟨_, rfl⟩
                  obtain ⟨kk, hkk⟩ : ∃ kk, kk = key e := ⟨_, rfl⟩
                  have hke : kk = Of e % i3 := by rw [hkk, HKE.out, hi3]
                  have hkb : kk ≤ 302 := by rw [hke, hi3]; have := Nat.mod_lt (Of e) (show 0 < i + 3 by omega); omega
                  generalize Of e = ofe at hcell hof hke
                  have hwx : IntKind.i64.wrap (ofe : Int) = (ofe : Int) := i64_in (by omega)
                  have hw3 : IntKind.i64.wrap ((i : Int) + 3) = (i3 : Int) := by rw [i64_in (by omega), hi3]; omega
                  have hkz : ¬ (i3 : Int) = 0 := by omega
                  have hm1 : (ofe : Int).tmod (i3 : Int) = (kk : Int) := by rw [hke, Int.tmod_eq_emod_of_nonneg (by omega)]; omega
                  have hrem := run_rem hkz hm1
                  have hkn : ¬ i3 = 0 := by omega
                  have hwe : IntKind.i64.wrap (1000000 + (e : Int)) = 1000000 + (e : Int) := i64_in (by omega)
                  have hea : (0 : Int) ≤ (e : Int) := by omega
                  have heb : (e : Int) < (m : Int) := by omega
                  have hk9 := h9.kys.cell (j := e) (v := .int .i64 0) (by unfold kpart; simp [hel])
                  have hk9a := hk9.1
                  have hk9b := hk9.2
                  have hcc := h9.keyed hel
                  rw [← hkk] at hcc
                  have H10 := hid hcc
                  have HKK : Hid (key e = kk) := hkk.symm
                  clear hc2 h9 HE hk9 hcc hkk hke hi3 H8
                  go_wp2_with fail
                  clear hrem hkz hkn hw3 hwx hcell hk9a hk9b hm1
                  generalize wr.setCell ⟨gK, e, none⟩ (.int .i64 kk) = W10 at H10 ⊢
                  refine (digest_any kk W10 (by omega)).mono ?_
                  rintro ee W11 ⟨rfl, hb11⟩
                  obtain ⟨τ12, hτ12⟩ : ∃ τ12, τ12 = mark τ9 W11.heap.size 1 := ⟨_, rfl⟩
                  have H12 : Hid (B4 w (W11.alloc (.cells (msCells e kk).toArray 49)) τ12 cb pm i vI vU Pv Pr pre ∧ Has (W11.alloc (.cells (msCells e kk).toArray 49)) τ12 6 3 1 (.slice (some ⟨gK, 0, none⟩) m m) m (kpart m key (e + 1)) ∧ Has (W11.alloc (.cells (msCells e kk).toArray 49)) τ12 7 49 11 (.slice (some ⟨gM, 0, none⟩) e cM) e (mss e key) ∧ (W11.alloc (.cells (msCells e kk).toArray 49)).heap[W11.heap.size]? = some (.cells (msCells e kk).toArray 49 (0, 0))) := by
                    have s1 := Stp.of_below hb11 1 τ9
                    have s2 := Stp.marked ((Below.refl _ W11).alloc (Nat.le_refl _) (.cells (msCells e kk).toArray 49)) 1 τ9 (Nat.le_refl _) 1
                    rw [hτ12]
                    exact ⟨(H10.out.1.step s1 (Or.inl rfl)).step s2 (Or.inl rfl), (H10.out.2.1.step s1 (by omega)).step s2 (by omega), (H10.out.2.2.step s1 (by omega)).step s2 (by omega), heap_alloc_new W11 _⟩
                  clear hb11 hτ12 H10
                  go_wp2_with (first | (at_builtin; refine wpList_app rfl (.tmp 147) (.tmp 154) el45 rfl H12.out.2.2.1 rfl ⟨W11.heap.size, 0, none⟩ 1 1 rfl (msCells e kk) rfl (news_of H12.out.2.2.2) (ms_one _ _) (by omega) (Nat.succ_pos _) ?_; intro g9 c9 W13 HN))
                  have HF : Hid (∃ τ, B5 w W13 τ cb pm i m (e + 1) gK g9 c9 vI vU Pv Pr pre key) := by
                    refine ⟨_, H12.out.1.step HN.out.2 (Or.inr (Or.inr rfl)), H12.out.2.1.step HN.out.2 (by omega), ?_⟩
                    rw [mss_succ, HKK.out]
                    exact HN.out.1
                  clear HN H12 HKK hwe hea heb hkb
                  go_roundw
                  case rel => exact ⟨e + 1, g9, c9, hel, by go_num, rfl, HF.out⟩
                  case measure => simp [intOf]; omega
                · obtain rfl : e = m := by omega
                  obtain ⟨τ9, h9⟩ := HE.out
                  have hpl := HI.out.pre.len
                  have HKB : Hid (∀ x, x < e → key x < i + 3) := fun x hx => by
                    rw [HKE.out]; exact Nat.mod_lt _ (by omega)
                  have HPB : Hid (∀ q, q < i → (Pr q).length ≤ 1024 ∧ ∃ g c, Pv q = .slice (some ⟨g, 0, none⟩) (Pr q).length c) := fun q hq => ⟨by rw [(HI.out.pri q hq).len]; exact HL.out q hq, h9.b4.frm q hq⟩
                  have HB9 := hid h9
                  clear h9 HE H8 he hel
                  go_wp2_with fail
                  refine (attach_any w wr τ9 cb pm gM cM i e vI vU (.slice (some ⟨gK, 0, none⟩) e e) key Pv Pr pre HB9.out.base HB9.out.b4.bel HB9.out.b4.old hn hm (by omega) HKB.out HPB.out).mono ?_
                  rintro ee W20 ⟨rfl, vU2, av, HF⟩
                  obtain ⟨aI, cI, rfl, hI⟩ := own_form HF.out.img
                  obtain ⟨U, hU⟩ : ∃ U, U = (pre ++ ear2 key i e).length := ⟨_, rfl⟩
                  obtain ⟨aU, cU, rfl, hUf⟩ := own_form HF.out.una
                  rw [← hU] at HF hUf
                  have HUU : Hid (U = (pre ++ ear2 key i e).length) := hU
                  have HIf := hid hI
                  have HUf := hid hUf
                  clear hU hI hUf HB9
                  have q0 := HF.out.cell.1
                  have q1 := HF.out.cell.2.1
                  have q2 := HF.out.cell.2.2
                  have hul : U ≤ 2048 := by
                    have := ear2_len key i e
                    rw [HUU.out, List.length_append]; omega
                  have hlm : (posEs i).size = i := posEs_size i
                  have hpm := HF.out.pos
                  clear hlm hpm q0 q1 q2
                  dsimp only
                  rename_i x1 x2 x3 x4 x5 x6 x7 x8 x9 x10 x11 x12
                  first | refine x12 _ _ ?_ | refine x11 _ _ ?_ | refine x10 _ _ ?_ | refine x9 _ _ ?_ | refine x8 _ _ ?_ | refine x7 _ _ ?_ | refine x6 _ _ ?_ | refine x5 _ _ ?_ | refine x4 _ _ ?_ | refine x3 _ _ ?_ | refine x2 _ _ ?_ | refine x1 _ _ ?_
                  change x5 _ _
                  first | refine x12 _ _ ?_ | refine x11 _ _ ?_ | refine x10 _ _ ?_ | refine x9 _ _ ?_ | refine x8 _ _ ?_ | refine x7 _ _ ?_ | refine x6 _ _ ?_ | refine x4 _ _ ?_ | refine x3 _ _ ?_ | refine x2 _ _ ?_ | refine x1 _ _ ?_
                  exact tail w W20 a0 a1 a2 i c0 j c1 e c2 cb pm gK cI cU U aI aU pp pn pc Pr pre Of key av HI hn hnp hm HL HF HUU HIf HUf hul
end Go.Proofs.Ybulkczwi
