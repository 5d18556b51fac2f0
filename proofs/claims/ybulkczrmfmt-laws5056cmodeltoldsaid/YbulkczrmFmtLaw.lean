import Derived.Test.YbulkczrmFmtLawKit
namespace Go.Proofs.YbulkczrmFmt
open Go.RowKit Go.Extern.Stop Go.Stop Go.Extern
set_option linter.unusedVariables false
set_option linter.unusedSimpArgs false

theorem sort_rdy {F : Interp} {w W : World} {ks : List Key} {k : Nat} (cap : Nat) (h : Rdy F w W w.heap.size ks k ∧ w.heap.size < W.heap.size ∧ sumK ks ≤ 40000) (h0 : 0 < w.heap.size) :
    Calls Ybaf.prog 5 #[.slice (some ⟨w.heap.size, 0, none⟩) k cap, .func (.func 6) #[] #[]] W fun e w' => e = .returned (.tuple #[]) ∧ ∃ ks', Hid (Rdy F w w' w.heap.size ks' k ∧ w.heap.size < w'.heap.size ∧ sumK ks' ≤ 40000) := by
  have hs := sort_any w.heap.size 0 cap ks W h.1.keys.row h.1.keys.good h.2.1 (by rw [h.1.len]; exact h.1.few)
  rw [h.1.len] at hs
  refine hs.mono ?_
  rintro e w3 ⟨rfl, ks', hp, _, hr, hu⟩
  refine ⟨rfl, ks', ⟨h.1.keys.perm hp hr hu, by rw [hp.length_eq]; exact h.1.len, h.1.few, by rw [sumK_perm hp]; exact h.1.sum, ?_, by rw [hu.tape]; exact h.1.ans, Upd.below h.1.bel hu (by simp) h.1.bel.size⟩, Nat.lt_of_lt_of_le h.2.1 hu.size, by rw [sumK_perm hp]; exact h.2.2⟩
  exact ⟨cell_upd hu h.1.kinds.leaf (by simp; omega), cell_upd hu h.1.kinds.int (by simp; omega)⟩

set_option maxRecDepth 20000 in
set_option maxHeartbeats 4000000 in
theorem model_law_fff (F : Interp) (a0 : Option Addr) (len0 cap0 la ll : Nat) (P : Nat → Option Addr) (N C : Nat → Nat) (kbs : Nat → List Int) (w : World) (h : In F w a0 len0 P N C kbs) (hl : len0 ≤ 1024) (hla : la < 256) (hll : ll < 256) (h0 : 0 < len0) :
    Calls Ybaf.prog 3 #[.slice a0 len0 cap0, .bool false, .bool false, .bool false, .int .u8 la, .int .u8 ll] w fun e w' => e = .returned (.bool true) ∧ Below w.heap.size w w' := by
  have HI : Hid _ := h
  clear h
  go_enter Ybaf.func3, Ybaf.ntmps3
  go_wp2
  go_loop [13, 14] (fun s i => ∃ k : Nat, k ≤ len0 ∧ i = .int .i64 k ∧ s = .int .i64 (sumN N k : Nat) ∧ sumN N k ≤ 2000 * k) (fun _ i => len0 - (intOf i).toNat)
  case atStart => exact ⟨0, Nat.zero_le _, rfl, rfl, Nat.le_refl _⟩
  case round =>
    obtain ⟨k, hk, rfl, rfl, hsum⟩ := hrel
    by_cases hlt : k < len0
    · obtain ⟨b, o, rfl, hc⟩ := HI.out.keys.at' (by omega)
      have hck := hc k hlt
      have hNk := HI.out.mx k hlt
      clear hc
      by_cases h2 : 2000 < N k
      · go_wp2
        go_ret
        exact ⟨rfl, Below.refl _ _⟩
      · have HS : Hid (sumN N (k + 1) = sumN N k + N k) := rfl
        go_wp2
        go_round
        case rel => exact ⟨k + 1, hlt, by go_num, congrArg (Value.int .i64) (by rw [HS.out]; omega), by rw [HS.out]; omega⟩
        case measure => simp [intOf]; omega
    · obtain rfl : k = len0 := by omega
      by_cases h4 : 40000 < sumN N k
      · go_wp2
        go_ret
        exact ⟨rfl, Below.refl _ _⟩
      · have H4 : Hid (sumN N k ≤ 40000 ∧ 0 < w.heap.size) := ⟨by omega, World.block_lt_of_cell? _ _ HI.out.kinds.leaf⟩
        obtain ⟨i0, hi, hz0, hz1, hz2⟩ := info_parts Ybaf.info23
        go_wp2_with (first | (at_make; refine wpList_make_full _ rfl _ _ 22 rfl w.heap.size 23 i0 (.slice none 0 0) 1 Ybaf.underlying22 hi hz0 hz1 _ _ _ _ k rfl rfl (by omega) (by omega) (by rw [hz2]; omega) (by unfold maxLen; omega) (Nat.le_refl _) ?_))
        intro w1 hown hg
        have R1 : Hid (w1.heap[w.heap.size]? = some (.cells (List.replicate k (Value.slice none 0 0)).toArray 23 (0, 0)) ∧ Below w.heap.size w w1) := by
          refine ⟨row_made hown (by rw [toList_madeCells_one]), (Below.refl _ _).grown hg (Nat.le_refl _) (by simp)⟩
        clear hown hg hz0 hz1 hz2 hi i0 h4 hsum hlt
        obtain ⟨b, o, rfl, hc⟩ := HI.out.keys.at' h0
        have HC : Hid (∀ j v, ((ksOf P N C kbs k).map encK)[j]? = some v → w1.cell? ((⟨b, o, none⟩ : Addr).add j) = some v) := keys_src R1.out.2 hc
        clear hc
        have HL : Hid (((ksOf P N C kbs k).map encK).length = k ∧ k = Nat.min k k ∧ 0 + ((ksOf P N C kbs k).map encK).length ≤ (List.replicate k (Value.slice none 0 0)).length) := ⟨by rw [List.length_map, ksOf_len], (Nat.min_self k).symm, by rw [List.length_map, ksOf_len]; simp⟩
        go_wp2_with (refine wpList_copy_named rfl (.tmp 53) (.tmp 54) 22 22 rfl 23 Ybaf.underlying22 Ybaf.size23 w.heap.size 0 k k ⟨b, o, none⟩ k cap0 rfl rfl (List.replicate k (Value.slice none 0 0)) 23 ((ksOf P N C kbs k).map encK) k HL.out.1 HL.out.2.1 R1.out.1 HC.out HL.out.2.2 (encK_one _) ?_)
        intro w2 hw2
        have K2 : Hid (Rdy F w w2 w.heap.size (ksOf P N C kbs k) k ∧ w.heap.size < w2.heap.size ∧ sumK (ksOf P N C kbs k) ≤ 40000) := by
          have hu2 : Upd [w.heap.size] w1 w2 := by rw [hw2.out.1]; exact (Upd.refl _ _).setRow (by simp) _
          have hb2 : Below w.heap.size w w2 := Upd.below R1.out.2 hu2 (by simp) R1.out.2.size
          have hr := hw2.out.2
          rw [splice_all _ _ (by rw [HL.out.1]; simp)] at hr
          exact ⟨rdy_start HI.out hl H4.out.1 (keys_copied HI.out hb2 hr) hb2 (ksOf_len _ _ _ _ _) (ksOf_sum _ _ _ _ _), lt_of_block hr, by rw [ksOf_sum]; exact H4.out.1⟩
        clear hw2 HC HL R1
        generalize ksOf P N C kbs k = ks at K2
        obtain ⟨w3, hw3⟩ : ∃ w3, w3 = w2 := ⟨_, rfl⟩
        rw [← hw3] at K2 ⊢
        have K3 := K2
        clear K2 hw3
        have K5 : Hid (Rdy F w w3 w.heap.size ks k) := K3.out.1
        have hkn : ¬ k = 0 := by omega
        clear K3
        go_wp2_with fail
        refine (build_rdy k false 1 4 K5.out (Or.inl ⟨rfl, rfl, rfl⟩)).mono ?_
        rintro e w6 ⟨sz, X, rfl, K6⟩
        generalize w3.heap.size = pg at K6 ⊢
        go_wp2_with fail
        refine (clone_pg K6.out).mono ?_
        rintro e w7 ⟨g7, c7, rfl, K7⟩
        go_wp2_with fail
        refine (ascend_pg 0 K7.out.1 (Or.inl ⟨rfl, rfl, rfl⟩) (by omega)).mono ?_
        rintro e w8 ⟨rfl, K8⟩
        have KB : Hid (BIn w8 (some ⟨g7, 0, none⟩) sz X) := bin_in K7.out.2 K8.out.2
        clear K7
        go_wp2_with fail
        refine (model_pg k 0 K8.out.1.rdy (by omega) (by omega)).mono ?_
        rintro e w9 ⟨rfl, q9, hw9⟩
        subst w9
        generalize okB (xsOf ks) 0 k = bb
        have HE : Hid (Calls Ybaf.prog 12 #[.slice (some ⟨pg, 0, none⟩) sz sz, .slice (some ⟨g7, 0, none⟩) sz c7] (w8.drewN q9) fun e w' => e = .returned (.bool true) ∧ w' = w8.drewN q9) := equal_pg c7 q9 K8.out.1 KB.out
        have HF : Hid (Below w.heap.size w (w8.drewN q9)) := K8.out.1.rdy.bel.trans ⟨rfl, rfl, rfl, Nat.le_refl _, fun _ _ => rfl⟩
        generalize w8.drewN q9 = w10 at *
        cases bb
        · go_wp2_with ((go_at_call 12; refine HE.out.mono ?_; rintro e w11 ⟨rfl, hw11⟩; subst w11))
          go_ret
          exact ⟨rfl, HF.out⟩
        · go_wp2_with ((go_at_call 12; refine HE.out.mono ?_; rintro e w11 ⟨rfl, hw11⟩; subst w11))
          go_ret
          exact ⟨rfl, HF.out⟩
set_option maxRecDepth 20000 in
set_option maxHeartbeats 4000000 in
theorem model_law_fft (F : Interp) (a0 : Option Addr) (len0 cap0 la ll : Nat) (P : Nat → Option Addr) (N C : Nat → Nat) (kbs : Nat → List Int) (w : World) (h : In F w a0 len0 P N C kbs) (hl : len0 ≤ 1024) (hla : la < 256) (hll : ll < 256) (h0 : 0 < len0) :
    Calls Ybaf.prog 3 #[.slice a0 len0 cap0, .bool false, .bool false, .bool true, .int .u8 la, .int .u8 ll] w fun e w' => e = .returned (.bool true) ∧ Below w.heap.size w w' := by
  have HI : Hid _ := h
  clear h
  go_enter Ybaf.func3, Ybaf.ntmps3
  go_wp2
  go_loop [13, 14] (fun s i => ∃ k : Nat, k ≤ len0 ∧ i = .int .i64 k ∧ s = .int .i64 (sumN N k : Nat) ∧ sumN N k ≤ 2000 * k) (fun _ i => len0 - (intOf i).toNat)
  case atStart => exact ⟨0, Nat.zero_le _, rfl, rfl, Nat.le_refl _⟩
  case round =>
    obtain ⟨k, hk, rfl, rfl, hsum⟩ := hrel
    by_cases hlt : k < len0
    · obtain ⟨b, o, rfl, hc⟩ := HI.out.keys.at' (by omega)
      have hck := hc k hlt
      have hNk := HI.out.mx k hlt
      clear hc
      by_cases h2 : 2000 < N k
      · go_wp2
        go_ret
        exact ⟨rfl, Below.refl _ _⟩
      · have HS : Hid (sumN N (k + 1) = sumN N k + N k) := rfl
        go_wp2
        go_round
        case rel => exact ⟨k + 1, hlt, by go_num, congrArg (Value.int .i64) (by rw [HS.out]; omega), by rw [HS.out]; omega⟩
        case measure => simp [intOf]; omega
    · obtain rfl : k = len0 := by omega
      by_cases h4 : 40000 < sumN N k
      · go_wp2
        go_ret
        exact ⟨rfl, Below.refl _ _⟩
      · have H4 : Hid (sumN N k ≤ 40000 ∧ 0 < w.heap.size) := ⟨by omega, World.block_lt_of_cell? _ _ HI.out.kinds.leaf⟩
        obtain ⟨i0, hi, hz0, hz1, hz2⟩ := info_parts Ybaf.info23
        go_wp2_with (first | (at_make; refine wpList_make_full _ rfl _ _ 22 rfl w.heap.size 23 i0 (.slice none 0 0) 1 Ybaf.underlying22 hi hz0 hz1 _ _ _ _ k rfl rfl (by omega) (by omega) (by rw [hz2]; omega) (by unfold maxLen; omega) (Nat.le_refl _) ?_))
        intro w1 hown hg
        have R1 : Hid (w1.heap[w.heap.size]? = some (.cells (List.replicate k (Value.slice none 0 0)).toArray 23 (0, 0)) ∧ Below w.heap.size w w1) := by
          refine ⟨row_made hown (by rw [toList_madeCells_one]), (Below.refl _ _).grown hg (Nat.le_refl _) (by simp)⟩
        clear hown hg hz0 hz1 hz2 hi i0 h4 hsum hlt
        obtain ⟨b, o, rfl, hc⟩ := HI.out.keys.at' h0
        have HC : Hid (∀ j v, ((ksOf P N C kbs k).map encK)[j]? = some v → w1.cell? ((⟨b, o, none⟩ : Addr).add j) = some v) := keys_src R1.out.2 hc
        clear hc
        have HL : Hid (((ksOf P N C kbs k).map encK).length = k ∧ k = Nat.min k k ∧ 0 + ((ksOf P N C kbs k).map encK).length ≤ (List.replicate k (Value.slice none 0 0)).length) := ⟨by rw [List.length_map, ksOf_len], (Nat.min_self k).symm, by rw [List.length_map, ksOf_len]; simp⟩
        go_wp2_with (refine wpList_copy_named rfl (.tmp 53) (.tmp 54) 22 22 rfl 23 Ybaf.underlying22 Ybaf.size23 w.heap.size 0 k k ⟨b, o, none⟩ k cap0 rfl rfl (List.replicate k (Value.slice none 0 0)) 23 ((ksOf P N C kbs k).map encK) k HL.out.1 HL.out.2.1 R1.out.1 HC.out HL.out.2.2 (encK_one _) ?_)
        intro w2 hw2
        have K2 : Hid (Rdy F w w2 w.heap.size (ksOf P N C kbs k) k ∧ w.heap.size < w2.heap.size ∧ sumK (ksOf P N C kbs k) ≤ 40000) := by
          have hu2 : Upd [w.heap.size] w1 w2 := by rw [hw2.out.1]; exact (Upd.refl _ _).setRow (by simp) _
          have hb2 : Below w.heap.size w w2 := Upd.below R1.out.2 hu2 (by simp) R1.out.2.size
          have hr := hw2.out.2
          rw [splice_all _ _ (by rw [HL.out.1]; simp)] at hr
          exact ⟨rdy_start HI.out hl H4.out.1 (keys_copied HI.out hb2 hr) hb2 (ksOf_len _ _ _ _ _) (ksOf_sum _ _ _ _ _), lt_of_block hr, by rw [ksOf_sum]; exact H4.out.1⟩
        clear hw2 HC HL R1
        generalize ksOf P N C kbs k = ks at K2
        obtain ⟨w3, hw3⟩ : ∃ w3, w3 = w2 := ⟨_, rfl⟩
        rw [← hw3] at K2 ⊢
        have K3 := K2
        clear K2 hw3
        obtain ⟨idx, hidx⟩ : ∃ idx, idx = la % k := ⟨_, rfl⟩
        obtain ⟨r, hr⟩ : ∃ r, r = ll % 10 := ⟨_, rfl⟩
        obtain ⟨T, hT⟩ : ∃ T, T = 995 + r := ⟨_, rfl⟩
        have hi1 : idx < k := by rw [hidx]; exact Nat.mod_lt _ h0
        have hr1 : r < 10 := by omega
        have hm1 : (la : Int).tmod (k : Int) = (idx : Int) := by rw [hidx, Int.tmod_eq_emod_of_nonneg (by omega)]; omega
        have hm2 : (ll : Int).tmod 10 = (r : Int) := by rw [hr, Int.tmod_eq_emod_of_nonneg (by omega)]; omega
        have hm3 : (995 : Int) + (r : Int) = (T : Int) := by omega
        have ht1 : 995 ≤ T := by omega
        have ht2 : T ≤ 1004 := by omega
        have hc12 := K3.out.1.keys.row idx (by rw [K3.out.1.len]; exact hi1)
        rw [Nat.zero_add] at hc12
        have HQ : Hid (w3.cell? ⟨w.heap.size, idx, none⟩ = some (encK (ks.getD idx noKey)) ∧ w3.frozen? ⟨w.heap.size, idx, none⟩ = false) := hc12
        clear hidx hr hT hc12
        have hlt3 : w.heap.size < w3.heap.size := K3.out.2.1
        generalize encK (ks.getD idx noKey) = v0 at HQ
        have HT : Hid (T ≤ 1004 ∧ idx < k) := ⟨ht2, hi1⟩
        have HR : Hid (Calls Ybaf.prog 7 #[.slice (some ⟨w3.heap.size, 0, none⟩) 1 1, .int .i64 (T : Int)] (w3.alloc (.cells #[.int .u8 255] 5)).drew fun e w' => ∃ g, e = .returned (.slice (some ⟨g, 0, none⟩) T T) ∧ Hid (BIn w' (some ⟨g, 0, none⟩) T (List.replicate T 255) ∧ Below w3.heap.size w3 w' ∧ w.heap.size < g) ∧ w'.cell? ⟨w.heap.size, idx, none⟩ = some v0 ∧ w'.frozen? ⟨w.heap.size, idx, none⟩ = false) := by
          refine (repeat_ff w3.heap.size T _ (new255 w3) ht1 ht2).mono ?_
          rintro e w' ⟨g, he, h1, h2, h3⟩
          have hk := keepC HQ.out h2
          refine ⟨g, he, ⟨h1, ?_, ?_⟩, hk.1, hk.2⟩
          · exact (((Below.refl _ w3).alloc (Nat.le_refl _) _).drew).trans (h2.mono (by simp))
          · simp at h3; omega
        go_wp2_with fail
        have hkz : ¬ (k : Int) = 0 := by omega
        have hrem := run_rem hkz hm1
        have hkn : ¬ k = 0 := by omega
        have hkn1 : (k = 0) = False := by simp; omega
        have hkn2 : ((k : Int) = 0) = False := by simp; omega
        have hwla : IntKind.i64.wrap (la : Int) = (la : Int) := i64_in (by omega)
        have hwT : IntKind.i64.wrap (995 + (r : Int)) = (T : Int) := by rw [i64_in (by omega)]; exact hm3
        have hwr : IntKind.i64.wrap (r : Int) = (r : Int) := i64_in (by omega)
        have hx0 : (0 : Int) ≤ (idx : Int) := by omega
        have hx1 : (idx : Int) < (k : Int) := by omega
        clear HQ ht1 ht2 hm3 hr1 hi1 hl hk h0 hla hll hlt3
        go_region_held3 (fun w' => True) (go_keep) (first | (go_at_call 7; refine HR.out.mono ?_; rintro e w4 ⟨g4, rfl, hb4, q1, q2⟩))
        obtain ⟨w5, hw5⟩ : ∃ w5, w5 = w4.setCell ⟨w.heap.size, idx, none⟩ (.slice (some ⟨g4, 0, none⟩) T T) := ⟨_, rfl⟩
        have K5 : Hid (Rdy F w w5 w.heap.size (ks.set idx (ffKey g4 T)) k) := rdy_set K3.out.1 K3.out.2.2 H4.out.2 HT.out.2 HT.out.1 hb4.out.1 hb4.out.2.1 hb4.out.2.2 hw5
        rw [← hw5]
        clear hw5 hb4 q1 q2
        generalize ks.set idx (ffKey g4 T) = kz at K5
        clear K3
        go_wp2_with fail
        refine (build_rdy k false 1 4 K5.out (Or.inl ⟨rfl, rfl, rfl⟩)).mono ?_
        rintro e w6 ⟨sz, X, rfl, K6⟩
        generalize w5.heap.size = pg at K6 ⊢
        go_wp2_with fail
        refine (clone_pg K6.out).mono ?_
        rintro e w7 ⟨g7, c7, rfl, K7⟩
        go_wp2_with fail
        refine (ascend_pg 0 K7.out.1 (Or.inl ⟨rfl, rfl, rfl⟩) (by omega)).mono ?_
        rintro e w8 ⟨rfl, K8⟩
        have KB : Hid (BIn w8 (some ⟨g7, 0, none⟩) sz X) := bin_in K7.out.2 K8.out.2
        clear K7
        go_wp2_with fail
        refine (model_pg k 0 K8.out.1.rdy (by omega) (by omega)).mono ?_
        rintro e w9 ⟨rfl, q9, hw9⟩
        subst w9
        generalize okB (xsOf kz) 0 k = bb
        have HE : Hid (Calls Ybaf.prog 12 #[.slice (some ⟨pg, 0, none⟩) sz sz, .slice (some ⟨g7, 0, none⟩) sz c7] (w8.drewN q9) fun e w' => e = .returned (.bool true) ∧ w' = w8.drewN q9) := equal_pg c7 q9 K8.out.1 KB.out
        have HF : Hid (Below w.heap.size w (w8.drewN q9)) := K8.out.1.rdy.bel.trans ⟨rfl, rfl, rfl, Nat.le_refl _, fun _ _ => rfl⟩
        generalize w8.drewN q9 = w10 at *
        cases bb
        · go_wp2_with ((go_at_call 12; refine HE.out.mono ?_; rintro e w11 ⟨rfl, hw11⟩; subst w11))
          go_ret
          exact ⟨rfl, HF.out⟩
        · go_wp2_with ((go_at_call 12; refine HE.out.mono ?_; rintro e w11 ⟨rfl, hw11⟩; subst w11))
          go_ret
          exact ⟨rfl, HF.out⟩
set_option maxRecDepth 20000 in
set_option maxHeartbeats 4000000 in
theorem model_law_ftf (F : Interp) (a0 : Option Addr) (len0 cap0 la ll : Nat) (P : Nat → Option Addr) (N C : Nat → Nat) (kbs : Nat → List Int) (w : World) (h : In F w a0 len0 P N C kbs) (hl : len0 ≤ 1024) (hla : la < 256) (hll : ll < 256) (h0 : 0 < len0) :
    Calls Ybaf.prog 3 #[.slice a0 len0 cap0, .bool false, .bool true, .bool false, .int .u8 la, .int .u8 ll] w fun e w' => e = .returned (.bool true) ∧ Below w.heap.size w w' := by
  have HI : Hid _ := h
  clear h
  go_enter Ybaf.func3, Ybaf.ntmps3
  go_wp2
  go_loop [13, 14] (fun s i => ∃ k : Nat, k ≤ len0 ∧ i = .int .i64 k ∧ s = .int .i64 (sumN N k : Nat) ∧ sumN N k ≤ 2000 * k) (fun _ i => len0 - (intOf i).toNat)
  case atStart => exact ⟨0, Nat.zero_le _, rfl, rfl, Nat.le_refl _⟩
  case round =>
    obtain ⟨k, hk, rfl, rfl, hsum⟩ := hrel
    by_cases hlt : k < len0
    · obtain ⟨b, o, rfl, hc⟩ := HI.out.keys.at' (by omega)
      have hck := hc k hlt
      have hNk := HI.out.mx k hlt
      clear hc
      by_cases h2 : 2000 < N k
      · go_wp2
        go_ret
        exact ⟨rfl, Below.refl _ _⟩
      · have HS : Hid (sumN N (k + 1) = sumN N k + N k) := rfl
        go_wp2
        go_round
        case rel => exact ⟨k + 1, hlt, by go_num, congrArg (Value.int .i64) (by rw [HS.out]; omega), by rw [HS.out]; omega⟩
        case measure => simp [intOf]; omega
    · obtain rfl : k = len0 := by omega
      by_cases h4 : 40000 < sumN N k
      · go_wp2
        go_ret
        exact ⟨rfl, Below.refl _ _⟩
      · have H4 : Hid (sumN N k ≤ 40000 ∧ 0 < w.heap.size) := ⟨by omega, World.block_lt_of_cell? _ _ HI.out.kinds.leaf⟩
        obtain ⟨i0, hi, hz0, hz1, hz2⟩ := info_parts Ybaf.info23
        go_wp2_with (first | (at_make; refine wpList_make_full _ rfl _ _ 22 rfl w.heap.size 23 i0 (.slice none 0 0) 1 Ybaf.underlying22 hi hz0 hz1 _ _ _ _ k rfl rfl (by omega) (by omega) (by rw [hz2]; omega) (by unfold maxLen; omega) (Nat.le_refl _) ?_))
        intro w1 hown hg
        have R1 : Hid (w1.heap[w.heap.size]? = some (.cells (List.replicate k (Value.slice none 0 0)).toArray 23 (0, 0)) ∧ Below w.heap.size w w1) := by
          refine ⟨row_made hown (by rw [toList_madeCells_one]), (Below.refl _ _).grown hg (Nat.le_refl _) (by simp)⟩
        clear hown hg hz0 hz1 hz2 hi i0 h4 hsum hlt
        obtain ⟨b, o, rfl, hc⟩ := HI.out.keys.at' h0
        have HC : Hid (∀ j v, ((ksOf P N C kbs k).map encK)[j]? = some v → w1.cell? ((⟨b, o, none⟩ : Addr).add j) = some v) := keys_src R1.out.2 hc
        clear hc
        have HL : Hid (((ksOf P N C kbs k).map encK).length = k ∧ k = Nat.min k k ∧ 0 + ((ksOf P N C kbs k).map encK).length ≤ (List.replicate k (Value.slice none 0 0)).length) := ⟨by rw [List.length_map, ksOf_len], (Nat.min_self k).symm, by rw [List.length_map, ksOf_len]; simp⟩
        go_wp2_with (refine wpList_copy_named rfl (.tmp 53) (.tmp 54) 22 22 rfl 23 Ybaf.underlying22 Ybaf.size23 w.heap.size 0 k k ⟨b, o, none⟩ k cap0 rfl rfl (List.replicate k (Value.slice none 0 0)) 23 ((ksOf P N C kbs k).map encK) k HL.out.1 HL.out.2.1 R1.out.1 HC.out HL.out.2.2 (encK_one _) ?_)
        intro w2 hw2
        have K2 : Hid (Rdy F w w2 w.heap.size (ksOf P N C kbs k) k ∧ w.heap.size < w2.heap.size ∧ sumK (ksOf P N C kbs k) ≤ 40000) := by
          have hu2 : Upd [w.heap.size] w1 w2 := by rw [hw2.out.1]; exact (Upd.refl _ _).setRow (by simp) _
          have hb2 : Below w.heap.size w w2 := Upd.below R1.out.2 hu2 (by simp) R1.out.2.size
          have hr := hw2.out.2
          rw [splice_all _ _ (by rw [HL.out.1]; simp)] at hr
          exact ⟨rdy_start HI.out hl H4.out.1 (keys_copied HI.out hb2 hr) hb2 (ksOf_len _ _ _ _ _) (ksOf_sum _ _ _ _ _), lt_of_block hr, by rw [ksOf_sum]; exact H4.out.1⟩
        clear hw2 HC HL R1
        go_wp2_with fail
        refine (sort_rdy k K2.out H4.out.2).mono ?_
        rintro e w3 ⟨rfl, ks, K3⟩
        clear K2
        have K5 : Hid (Rdy F w w3 w.heap.size ks k) := K3.out.1
        have hkn : ¬ k = 0 := by omega
        clear K3
        go_wp2_with fail
        refine (build_rdy k false 1 4 K5.out (Or.inl ⟨rfl, rfl, rfl⟩)).mono ?_
        rintro e w6 ⟨sz, X, rfl, K6⟩
        generalize w3.heap.size = pg at K6 ⊢
        go_wp2_with fail
        refine (clone_pg K6.out).mono ?_
        rintro e w7 ⟨g7, c7, rfl, K7⟩
        go_wp2_with fail
        refine (ascend_pg 0 K7.out.1 (Or.inl ⟨rfl, rfl, rfl⟩) (by omega)).mono ?_
        rintro e w8 ⟨rfl, K8⟩
        have KB : Hid (BIn w8 (some ⟨g7, 0, none⟩) sz X) := bin_in K7.out.2 K8.out.2
        clear K7
        go_wp2_with fail
        refine (model_pg k 0 K8.out.1.rdy (by omega) (by omega)).mono ?_
        rintro e w9 ⟨rfl, q9, hw9⟩
        subst w9
        generalize okB (xsOf ks) 0 k = bb
        have HE : Hid (Calls Ybaf.prog 12 #[.slice (some ⟨pg, 0, none⟩) sz sz, .slice (some ⟨g7, 0, none⟩) sz c7] (w8.drewN q9) fun e w' => e = .returned (.bool true) ∧ w' = w8.drewN q9) := equal_pg c7 q9 K8.out.1 KB.out
        have HF : Hid (Below w.heap.size w (w8.drewN q9)) := K8.out.1.rdy.bel.trans ⟨rfl, rfl, rfl, Nat.le_refl _, fun _ _ => rfl⟩
        generalize w8.drewN q9 = w10 at *
        cases bb
        · go_wp2_with ((go_at_call 12; refine HE.out.mono ?_; rintro e w11 ⟨rfl, hw11⟩; subst w11))
          go_ret
          exact ⟨rfl, HF.out⟩
        · go_wp2_with ((go_at_call 12; refine HE.out.mono ?_; rintro e w11 ⟨rfl, hw11⟩; subst w11))
          go_ret
          exact ⟨rfl, HF.out⟩
set_option maxRecDepth 20000 in
set_option maxHeartbeats 4000000 in
theorem model_law_ftt (F : Interp) (a0 : Option Addr) (len0 cap0 la ll : Nat) (P : Nat → Option Addr) (N C : Nat → Nat) (kbs : Nat → List Int) (w : World) (h : In F w a0 len0 P N C kbs) (hl : len0 ≤ 1024) (hla : la < 256) (hll : ll < 256) (h0 : 0 < len0) :
    Calls Ybaf.prog 3 #[.slice a0 len0 cap0, .bool false, .bool true, .bool true, .int .u8 la, .int .u8 ll] w fun e w' => e = .returned (.bool true) ∧ Below w.heap.size w w' := by
  have HI : Hid _ := h
  clear h
  go_enter Ybaf.func3, Ybaf.ntmps3
  go_wp2
  go_loop [13, 14] (fun s i => ∃ k : Nat, k ≤ len0 ∧ i = .int .i64 k ∧ s = .int .i64 (sumN N k : Nat) ∧ sumN N k ≤ 2000 * k) (fun _ i => len0 - (intOf i).toNat)
  case atStart => exact ⟨0, Nat.zero_le _, rfl, rfl, Nat.le_refl _⟩
  case round =>
    obtain ⟨k, hk, rfl, rfl, hsum⟩ := hrel
    by_cases hlt : k < len0
    · obtain ⟨b, o, rfl, hc⟩ := HI.out.keys.at' (by omega)
      have hck := hc k hlt
      have hNk := HI.out.mx k hlt
      clear hc
      by_cases h2 : 2000 < N k
      · go_wp2
        go_ret
        exact ⟨rfl, Below.refl _ _⟩
      · have HS : Hid (sumN N (k + 1) = sumN N k + N k) := rfl
        go_wp2
        go_round
        case rel => exact ⟨k + 1, hlt, by go_num, congrArg (Value.int .i64) (by rw [HS.out]; omega), by rw [HS.out]; omega⟩
        case measure => simp [intOf]; omega
    · obtain rfl : k = len0 := by omega
      by_cases h4 : 40000 < sumN N k
      · go_wp2
        go_ret
        exact ⟨rfl, Below.refl _ _⟩
      · have H4 : Hid (sumN N k ≤ 40000 ∧ 0 < w.heap.size) := ⟨by omega, World.block_lt_of_cell? _ _ HI.out.kinds.leaf⟩
        obtain ⟨i0, hi, hz0, hz1, hz2⟩ := info_parts Ybaf.info23
        go_wp2_with (first | (at_make; refine wpList_make_full _ rfl _ _ 22 rfl w.heap.size 23 i0 (.slice none 0 0) 1 Ybaf.underlying22 hi hz0 hz1 _ _ _ _ k rfl rfl (by omega) (by omega) (by rw [hz2]; omega) (by unfold maxLen; omega) (Nat.le_refl _) ?_))
        intro w1 hown hg
        have R1 : Hid (w1.heap[w.heap.size]? = some (.cells (List.replicate k (Value.slice none 0 0)).toArray 23 (0, 0)) ∧ Below w.heap.size w w1) := by
          refine ⟨row_made hown (by rw [toList_madeCells_one]), (Below.refl _ _).grown hg (Nat.le_refl _) (by simp)⟩
        clear hown hg hz0 hz1 hz2 hi i0 h4 hsum hlt
        obtain ⟨b, o, rfl, hc⟩ := HI.out.keys.at' h0
        have HC : Hid (∀ j v, ((ksOf P N C kbs k).map encK)[j]? = some v → w1.cell? ((⟨b, o, none⟩ : Addr).add j) = some v) := keys_src R1.out.2 hc
        clear hc
        have HL : Hid (((ksOf P N C kbs k).map encK).length = k ∧ k = Nat.min k k ∧ 0 + ((ksOf P N C kbs k).map encK).length ≤ (List.replicate k (Value.slice none 0 0)).length) := ⟨by rw [List.length_map, ksOf_len], (Nat.min_self k).symm, by rw [List.length_map, ksOf_len]; simp⟩
        go_wp2_with (refine wpList_copy_named rfl (.tmp 53) (.tmp 54) 22 22 rfl 23 Ybaf.underlying22 Ybaf.size23 w.heap.size 0 k k ⟨b, o, none⟩ k cap0 rfl rfl (List.replicate k (Value.slice none 0 0)) 23 ((ksOf P N C kbs k).map encK) k HL.out.1 HL.out.2.1 R1.out.1 HC.out HL.out.2.2 (encK_one _) ?_)
        intro w2 hw2
        have K2 : Hid (Rdy F w w2 w.heap.size (ksOf P N C kbs k) k ∧ w.heap.size < w2.heap.size ∧ sumK (ksOf P N C kbs k) ≤ 40000) := by
          have hu2 : Upd [w.heap.size] w1 w2 := by rw [hw2.out.1]; exact (Upd.refl _ _).setRow (by simp) _
          have hb2 : Below w.heap.size w w2 := Upd.below R1.out.2 hu2 (by simp) R1.out.2.size
          have hr := hw2.out.2
          rw [splice_all _ _ (by rw [HL.out.1]; simp)] at hr
          exact ⟨rdy_start HI.out hl H4.out.1 (keys_copied HI.out hb2 hr) hb2 (ksOf_len _ _ _ _ _) (ksOf_sum _ _ _ _ _), lt_of_block hr, by rw [ksOf_sum]; exact H4.out.1⟩
        clear hw2 HC HL R1
        go_wp2_with fail
        refine (sort_rdy k K2.out H4.out.2).mono ?_
        rintro e w3 ⟨rfl, ks, K3⟩
        clear K2
        obtain ⟨idx, hidx⟩ : ∃ idx, idx = la % k := ⟨_, rfl⟩
        obtain ⟨r, hr⟩ : ∃ r, r = ll % 10 := ⟨_, rfl⟩
        obtain ⟨T, hT⟩ : ∃ T, T = 995 + r := ⟨_, rfl⟩
        have hi1 : idx < k := by rw [hidx]; exact Nat.mod_lt _ h0
        have hr1 : r < 10 := by omega
        have hm1 : (la : Int).tmod (k : Int) = (idx : Int) := by rw [hidx, Int.tmod_eq_emod_of_nonneg (by omega)]; omega
        have hm2 : (ll : Int).tmod 10 = (r : Int) := by rw [hr, Int.tmod_eq_emod_of_nonneg (by omega)]; omega
        have hm3 : (995 : Int) + (r : Int) = (T : Int) := by omega
        have ht1 : 995 ≤ T := by omega
        have ht2 : T ≤ 1004 := by omega
        have hc12 := K3.out.1.keys.row idx (by rw [K3.out.1.len]; exact hi1)
        rw [Nat.zero_add] at hc12
        have HQ : Hid (w3.cell? ⟨w.heap.size, idx, none⟩ = some (encK (ks.getD idx noKey)) ∧ w3.frozen? ⟨w.heap.size, idx, none⟩ = false) := hc12
        clear hidx hr hT hc12
        have hlt3 : w.heap.size < w3.heap.size := K3.out.2.1
        generalize encK (ks.getD idx noKey) = v0 at HQ
        have HT : Hid (T ≤ 1004 ∧ idx < k) := ⟨ht2, hi1⟩
        have HR : Hid (Calls Ybaf.prog 7 #[.slice (some ⟨w3.heap.size, 0, none⟩) 1 1, .int .i64 (T : Int)] (w3.alloc (.cells #[.int .u8 255] 5)).drew fun e w' => ∃ g, e = .returned (.slice (some ⟨g, 0, none⟩) T T) ∧ Hid (BIn w' (some ⟨g, 0, none⟩) T (List.replicate T 255) ∧ Below w3.heap.size w3 w' ∧ w.heap.size < g) ∧ w'.cell? ⟨w.heap.size, idx, none⟩ = some v0 ∧ w'.frozen? ⟨w.heap.size, idx, none⟩ = false) := by
          refine (repeat_ff w3.heap.size T _ (new255 w3) ht1 ht2).mono ?_
          rintro e w' ⟨g, he, h1, h2, h3⟩
          have hk := keepC HQ.out h2
          refine ⟨g, he, ⟨h1, ?_, ?_⟩, hk.1, hk.2⟩
          · exact (((Below.refl _ w3).alloc (Nat.le_refl _) _).drew).trans (h2.mono (by simp))
          · simp at h3; omega
        go_wp2_with fail
        have hkz : ¬ (k : Int) = 0 := by omega
        have hrem := run_rem hkz hm1
        have hkn : ¬ k = 0 := by omega
        have hkn1 : (k = 0) = False := by simp; omega
        have hkn2 : ((k : Int) = 0) = False := by simp; omega
        have hwla : IntKind.i64.wrap (la : Int) = (la : Int) := i64_in (by omega)
        have hwT : IntKind.i64.wrap (995 + (r : Int)) = (T : Int) := by rw [i64_in (by omega)]; exact hm3
        have hwr : IntKind.i64.wrap (r : Int) = (r : Int) := i64_in (by omega)
        have hx0 : (0 : Int) ≤ (idx : Int) := by omega
        have hx1 : (idx : Int) < (k : Int) := by omega
        clear HQ ht1 ht2 hm3 hr1 hi1 hl hk h0 hla hll hlt3
        go_region_held3 (fun w' => True) (go_keep) (first | (go_at_call 7; refine HR.out.mono ?_; rintro e w4 ⟨g4, rfl, hb4, q1, q2⟩))
        obtain ⟨w5, hw5⟩ : ∃ w5, w5 = w4.setCell ⟨w.heap.size, idx, none⟩ (.slice (some ⟨g4, 0, none⟩) T T) := ⟨_, rfl⟩
        have K5 : Hid (Rdy F w w5 w.heap.size (ks.set idx (ffKey g4 T)) k) := rdy_set K3.out.1 K3.out.2.2 H4.out.2 HT.out.2 HT.out.1 hb4.out.1 hb4.out.2.1 hb4.out.2.2 hw5
        rw [← hw5]
        clear hw5 hb4 q1 q2
        generalize ks.set idx (ffKey g4 T) = kz at K5
        clear K3
        go_wp2_with fail
        refine (build_rdy k false 1 4 K5.out (Or.inl ⟨rfl, rfl, rfl⟩)).mono ?_
        rintro e w6 ⟨sz, X, rfl, K6⟩
        generalize w5.heap.size = pg at K6 ⊢
        go_wp2_with fail
        refine (clone_pg K6.out).mono ?_
        rintro e w7 ⟨g7, c7, rfl, K7⟩
        go_wp2_with fail
        refine (ascend_pg 0 K7.out.1 (Or.inl ⟨rfl, rfl, rfl⟩) (by omega)).mono ?_
        rintro e w8 ⟨rfl, K8⟩
        have KB : Hid (BIn w8 (some ⟨g7, 0, none⟩) sz X) := bin_in K7.out.2 K8.out.2
        clear K7
        go_wp2_with fail
        refine (model_pg k 0 K8.out.1.rdy (by omega) (by omega)).mono ?_
        rintro e w9 ⟨rfl, q9, hw9⟩
        subst w9
        generalize okB (xsOf kz) 0 k = bb
        have HE : Hid (Calls Ybaf.prog 12 #[.slice (some ⟨pg, 0, none⟩) sz sz, .slice (some ⟨g7, 0, none⟩) sz c7] (w8.drewN q9) fun e w' => e = .returned (.bool true) ∧ w' = w8.drewN q9) := equal_pg c7 q9 K8.out.1 KB.out
        have HF : Hid (Below w.heap.size w (w8.drewN q9)) := K8.out.1.rdy.bel.trans ⟨rfl, rfl, rfl, Nat.le_refl _, fun _ _ => rfl⟩
        generalize w8.drewN q9 = w10 at *
        cases bb
        · go_wp2_with ((go_at_call 12; refine HE.out.mono ?_; rintro e w11 ⟨rfl, hw11⟩; subst w11))
          go_ret
          exact ⟨rfl, HF.out⟩
        · go_wp2_with ((go_at_call 12; refine HE.out.mono ?_; rintro e w11 ⟨rfl, hw11⟩; subst w11))
          go_ret
          exact ⟨rfl, HF.out⟩
set_option maxRecDepth 20000 in
set_option maxHeartbeats 4000000 in
theorem model_law_tff (F : Interp) (a0 : Option Addr) (len0 cap0 la ll : Nat) (P : Nat → Option Addr) (N C : Nat → Nat) (kbs : Nat → List Int) (w : World) (h : In F w a0 len0 P N C kbs) (hl : len0 ≤ 1024) (hla : la < 256) (hll : ll < 256) (h0 : 0 < len0) :
    Calls Ybaf.prog 3 #[.slice a0 len0 cap0, .bool true, .bool false, .bool false, .int .u8 la, .int .u8 ll] w fun e w' => e = .returned (.bool true) ∧ Below w.heap.size w w' := by
  have HI : Hid _ := h
  clear h
  go_enter Ybaf.func3, Ybaf.ntmps3
  go_wp2
  go_loop [13, 14] (fun s i => ∃ k : Nat, k ≤ len0 ∧ i = .int .i64 k ∧ s = .int .i64 (sumN N k : Nat) ∧ sumN N k ≤ 2000 * k) (fun _ i => len0 - (intOf i).toNat)
  case atStart => exact ⟨0, Nat.zero_le _, rfl, rfl, Nat.le_refl _⟩
  case round =>
    obtain ⟨k, hk, rfl, rfl, hsum⟩ := hrel
    by_cases hlt : k < len0
    · obtain ⟨b, o, rfl, hc⟩ := HI.out.keys.at' (by omega)
      have hck := hc k hlt
      have hNk := HI.out.mx k hlt
      clear hc
      by_cases h2 : 2000 < N k
      · go_wp2
        go_ret
        exact ⟨rfl, Below.refl _ _⟩
      · have HS : Hid (sumN N (k + 1) = sumN N k + N k) := rfl
        go_wp2
        go_round
        case rel => exact ⟨k + 1, hlt, by go_num, congrArg (Value.int .i64) (by rw [HS.out]; omega), by rw [HS.out]; omega⟩
        case measure => simp [intOf]; omega
    · obtain rfl : k = len0 := by omega
      by_cases h4 : 40000 < sumN N k
      · go_wp2
        go_ret
        exact ⟨rfl, Below.refl _ _⟩
      · have H4 : Hid (sumN N k ≤ 40000 ∧ 0 < w.heap.size) := ⟨by omega, World.block_lt_of_cell? _ _ HI.out.kinds.leaf⟩
        have hdz : decide ((k : Int) = 0) = false := by simp; omega
        obtain ⟨i0, hi, hz0, hz1, hz2⟩ := info_parts Ybaf.info23
        go_wp2_with (first | (at_make; refine wpList_make_full _ rfl _ _ 22 rfl w.heap.size 23 i0 (.slice none 0 0) 1 Ybaf.underlying22 hi hz0 hz1 _ _ _ _ k rfl rfl (by omega) (by omega) (by rw [hz2]; omega) (by unfold maxLen; omega) (Nat.le_refl _) ?_))
        intro w1 hown hg
        have R1 : Hid (w1.heap[w.heap.size]? = some (.cells (List.replicate k (Value.slice none 0 0)).toArray 23 (0, 0)) ∧ Below w.heap.size w w1) := by
          refine ⟨row_made hown (by rw [toList_madeCells_one]), (Below.refl _ _).grown hg (Nat.le_refl _) (by simp)⟩
        clear hown hg hz0 hz1 hz2 hi i0 h4 hsum hlt
        obtain ⟨b, o, rfl, hc⟩ := HI.out.keys.at' h0
        have HC : Hid (∀ j v, ((ksOf P N C kbs k).map encK)[j]? = some v → w1.cell? ((⟨b, o, none⟩ : Addr).add j) = some v) := keys_src R1.out.2 hc
        clear hc
        have HL : Hid (((ksOf P N C kbs k).map encK).length = k ∧ k = Nat.min k k ∧ 0 + ((ksOf P N C kbs k).map encK).length ≤ (List.replicate k (Value.slice none 0 0)).length) := ⟨by rw [List.length_map, ksOf_len], (Nat.min_self k).symm, by rw [List.length_map, ksOf_len]; simp⟩
        go_wp2_with (refine wpList_copy_named rfl (.tmp 53) (.tmp 54) 22 22 rfl 23 Ybaf.underlying22 Ybaf.size23 w.heap.size 0 k k ⟨b, o, none⟩ k cap0 rfl rfl (List.replicate k (Value.slice none 0 0)) 23 ((ksOf P N C kbs k).map encK) k HL.out.1 HL.out.2.1 R1.out.1 HC.out HL.out.2.2 (encK_one _) ?_)
        intro w2 hw2
        have K2 : Hid (Rdy F w w2 w.heap.size (ksOf P N C kbs k) k ∧ w.heap.size < w2.heap.size ∧ sumK (ksOf P N C kbs k) ≤ 40000) := by
          have hu2 : Upd [w.heap.size] w1 w2 := by rw [hw2.out.1]; exact (Upd.refl _ _).setRow (by simp) _
          have hb2 : Below w.heap.size w w2 := Upd.below R1.out.2 hu2 (by simp) R1.out.2.size
          have hr := hw2.out.2
          rw [splice_all _ _ (by rw [HL.out.1]; simp)] at hr
          exact ⟨rdy_start HI.out hl H4.out.1 (keys_copied HI.out hb2 hr) hb2 (ksOf_len _ _ _ _ _) (ksOf_sum _ _ _ _ _), lt_of_block hr, by rw [ksOf_sum]; exact H4.out.1⟩
        clear hw2 HC HL R1
        generalize ksOf P N C kbs k = ks at K2
        obtain ⟨w3, hw3⟩ : ∃ w3, w3 = w2 := ⟨_, rfl⟩
        rw [← hw3] at K2 ⊢
        have K3 := K2
        clear K2 hw3
        have K5 : Hid (Rdy F w w3 w.heap.size ks k) := K3.out.1
        have hkn : ¬ k = 0 := by omega
        clear K3
        go_wp2_with fail
        refine (build_rdy k true 2 6 K5.out (Or.inr ⟨rfl, rfl, rfl⟩)).mono ?_
        rintro e w6 ⟨sz, X, rfl, K6⟩
        generalize w3.heap.size = pg at K6 ⊢
        go_wp2_with fail
        refine (clone_pg K6.out).mono ?_
        rintro e w7 ⟨g7, c7, rfl, K7⟩
        go_wp2_with fail
        refine (ascend_pg 1 K7.out.1 (Or.inr ⟨rfl, rfl, rfl⟩) (by omega)).mono ?_
        rintro e w8 ⟨rfl, K8⟩
        have KB : Hid (BIn w8 (some ⟨g7, 0, none⟩) sz X) := bin_in K7.out.2 K8.out.2
        clear K7
        go_wp2_with fail
        refine (model_pg k 1 K8.out.1.rdy (by omega) (by omega)).mono ?_
        rintro e w9 ⟨rfl, q9, hw9⟩
        subst w9
        generalize okB (xsOf ks) 1 k = bb
        have HE : Hid (Calls Ybaf.prog 12 #[.slice (some ⟨pg, 0, none⟩) sz sz, .slice (some ⟨g7, 0, none⟩) sz c7] (w8.drewN q9) fun e w' => e = .returned (.bool true) ∧ w' = w8.drewN q9) := equal_pg c7 q9 K8.out.1 KB.out
        have HF : Hid (Below w.heap.size w (w8.drewN q9)) := K8.out.1.rdy.bel.trans ⟨rfl, rfl, rfl, Nat.le_refl _, fun _ _ => rfl⟩
        generalize w8.drewN q9 = w10 at *
        cases bb
        · go_wp2_with ((go_at_call 12; refine HE.out.mono ?_; rintro e w11 ⟨rfl, hw11⟩; subst w11))
          go_ret
          exact ⟨rfl, HF.out⟩
        · go_wp2_with ((go_at_call 12; refine HE.out.mono ?_; rintro e w11 ⟨rfl, hw11⟩; subst w11))
          go_ret
          exact ⟨rfl, HF.out⟩
set_option maxRecDepth 20000 in
set_option maxHeartbeats 4000000 in
theorem model_law_tft (F : Interp) (a0 : Option Addr) (len0 cap0 la ll : Nat) (P : Nat → Option Addr) (N C : Nat → Nat) (kbs : Nat → List Int) (w : World) (h : In F w a0 len0 P N C kbs) (hl : len0 ≤ 1024) (hla : la < 256) (hll : ll < 256) (h0 : 0 < len0) :
    Calls Ybaf.prog 3 #[.slice a0 len0 cap0, .bool true, .bool false, .bool true, .int .u8 la, .int .u8 ll] w fun e w' => e = .returned (.bool true) ∧ Below w.heap.size w w' := by
  have HI : Hid _ := h
  clear h
  go_enter Ybaf.func3, Ybaf.ntmps3
  go_wp2
  go_loop [13, 14] (fun s i => ∃ k : Nat, k ≤ len0 ∧ i = .int .i64 k ∧ s = .int .i64 (sumN N k : Nat) ∧ sumN N k ≤ 2000 * k) (fun _ i => len0 - (intOf i).toNat)
  case atStart => exact ⟨0, Nat.zero_le _, rfl, rfl, Nat.le_refl _⟩
  case round =>
    obtain ⟨k, hk, rfl, rfl, hsum⟩ := hrel
    by_cases hlt : k < len0
    · obtain ⟨b, o, rfl, hc⟩ := HI.out.keys.at' (by omega)
      have hck := hc k hlt
      have hNk := HI.out.mx k hlt
      clear hc
      by_cases h2 : 2000 < N k
      · go_wp2
        go_ret
        exact ⟨rfl, Below.refl _ _⟩
      · have HS : Hid (sumN N (k + 1) = sumN N k + N k) := rfl
        go_wp2
        go_round
        case rel => exact ⟨k + 1, hlt, by go_num, congrArg (Value.int .i64) (by rw [HS.out]; omega), by rw [HS.out]; omega⟩
        case measure => simp [intOf]; omega
    · obtain rfl : k = len0 := by omega
      by_cases h4 : 40000 < sumN N k
      · go_wp2
        go_ret
        exact ⟨rfl, Below.refl _ _⟩
      · have H4 : Hid (sumN N k ≤ 40000 ∧ 0 < w.heap.size) := ⟨by omega, World.block_lt_of_cell? _ _ HI.out.kinds.leaf⟩
        have hdz : decide ((k : Int) = 0) = false := by simp; omega
        obtain ⟨i0, hi, hz0, hz1, hz2⟩ := info_parts Ybaf.info23
        go_wp2_with (first | (at_make; refine wpList_make_full _ rfl _ _ 22 rfl w.heap.size 23 i0 (.slice none 0 0) 1 Ybaf.underlying22 hi hz0 hz1 _ _ _ _ k rfl rfl (by omega) (by omega) (by rw [hz2]; omega) (by unfold maxLen; omega) (Nat.le_refl _) ?_))
        intro w1 hown hg
        have R1 : Hid (w1.heap[w.heap.size]? = some (.cells (List.replicate k (Value.slice none 0 0)).toArray 23 (0, 0)) ∧ Below w.heap.size w w1) := by
          refine ⟨row_made hown (by rw [toList_madeCells_one]), (Below.refl _ _).grown hg (Nat.le_refl _) (by simp)⟩
        clear hown hg hz0 hz1 hz2 hi i0 h4 hsum hlt
        obtain ⟨b, o, rfl, hc⟩ := HI.out.keys.at' h0
        have HC : Hid (∀ j v, ((ksOf P N C kbs k).map encK)[j]? = some v → w1.cell? ((⟨b, o, none⟩ : Addr).add j) = some v) := keys_src R1.out.2 hc
        clear hc
        have HL : Hid (((ksOf P N C kbs k).map encK).length = k ∧ k = Nat.min k k ∧ 0 + ((ksOf P N C kbs k).map encK).length ≤ (List.replicate k (Value.slice none 0 0)).length) := ⟨by rw [List.length_map, ksOf_len], (Nat.min_self k).symm, by rw [List.length_map, ksOf_len]; simp⟩
        go_wp2_with (refine wpList_copy_named rfl (.tmp 53) (.tmp 54) 22 22 rfl 23 Ybaf.underlying22 Ybaf.size23 w.heap.size 0 k k ⟨b, o, none⟩ k cap0 rfl rfl (List.replicate k (Value.slice none 0 0)) 23 ((ksOf P N C kbs k).map encK) k HL.out.1 HL.out.2.1 R1.out.1 HC.out HL.out.2.2 (encK_one _) ?_)
        intro w2 hw2
        have K2 : Hid (Rdy F w w2 w.heap.size (ksOf P N C kbs k) k ∧ w.heap.size < w2.heap.size ∧ sumK (ksOf P N C kbs k) ≤ 40000) := by
          have hu2 : Upd [w.heap.size] w1 w2 := by rw [hw2.out.1]; exact (Upd.refl _ _).setRow (by simp) _
          have hb2 : Below w.heap.size w w2 := Upd.below R1.out.2 hu2 (by simp) R1.out.2.size
          have hr := hw2.out.2
          rw [splice_all _ _ (by rw [HL.out.1]; simp)] at hr
          exact ⟨rdy_start HI.out hl H4.out.1 (keys_copied HI.out hb2 hr) hb2 (ksOf_len _ _ _ _ _) (ksOf_sum _ _ _ _ _), lt_of_block hr, by rw [ksOf_sum]; exact H4.out.1⟩
        clear hw2 HC HL R1
        generalize ksOf P N C kbs k = ks at K2
        obtain ⟨w3, hw3⟩ : ∃ w3, w3 = w2 := ⟨_, rfl⟩
        rw [← hw3] at K2 ⊢
        have K3 := K2
        clear K2 hw3
        obtain ⟨idx, hidx⟩ : ∃ idx, idx = la % k := ⟨_, rfl⟩
        obtain ⟨r, hr⟩ : ∃ r, r = ll % 10 := ⟨_, rfl⟩
        obtain ⟨T, hT⟩ : ∃ T, T = 995 + r := ⟨_, rfl⟩
        have hi1 : idx < k := by rw [hidx]; exact Nat.mod_lt _ h0
        have hr1 : r < 10 := by omega
        have hm1 : (la : Int).tmod (k : Int) = (idx : Int) := by rw [hidx, Int.tmod_eq_emod_of_nonneg (by omega)]; omega
        have hm2 : (ll : Int).tmod 10 = (r : Int) := by rw [hr, Int.tmod_eq_emod_of_nonneg (by omega)]; omega
        have hm3 : (995 : Int) + (r : Int) = (T : Int) := by omega
        have ht1 : 995 ≤ T := by omega
        have ht2 : T ≤ 1004 := by omega
        have hc12 := K3.out.1.keys.row idx (by rw [K3.out.1.len]; exact hi1)
        rw [Nat.zero_add] at hc12
        have HQ : Hid (w3.cell? ⟨w.heap.size, idx, none⟩ = some (encK (ks.getD idx noKey)) ∧ w3.frozen? ⟨w.heap.size, idx, none⟩ = false) := hc12
        clear hidx hr hT hc12
        have hlt3 : w.heap.size < w3.heap.size := K3.out.2.1
        generalize encK (ks.getD idx noKey) = v0 at HQ
        have HT : Hid (T ≤ 1004 ∧ idx < k) := ⟨ht2, hi1⟩
        have HR : Hid (Calls Ybaf.prog 7 #[.slice (some ⟨w3.heap.size, 0, none⟩) 1 1, .int .i64 (T : Int)] (w3.alloc (.cells #[.int .u8 255] 5)).drew fun e w' => ∃ g, e = .returned (.slice (some ⟨g, 0, none⟩) T T) ∧ Hid (BIn w' (some ⟨g, 0, none⟩) T (List.replicate T 255) ∧ Below w3.heap.size w3 w' ∧ w.heap.size < g) ∧ w'.cell? ⟨w.heap.size, idx, none⟩ = some v0 ∧ w'.frozen? ⟨w.heap.size, idx, none⟩ = false) := by
          refine (repeat_ff w3.heap.size T _ (new255 w3) ht1 ht2).mono ?_
          rintro e w' ⟨g, he, h1, h2, h3⟩
          have hk := keepC HQ.out h2
          refine ⟨g, he, ⟨h1, ?_, ?_⟩, hk.1, hk.2⟩
          · exact (((Below.refl _ w3).alloc (Nat.le_refl _) _).drew).trans (h2.mono (by simp))
          · simp at h3; omega
        go_wp2_with fail
        have hkz : ¬ (k : Int) = 0 := by omega
        have hrem := run_rem hkz hm1
        have hkn : ¬ k = 0 := by omega
        have hkn1 : (k = 0) = False := by simp; omega
        have hkn2 : ((k : Int) = 0) = False := by simp; omega
        have hwla : IntKind.i64.wrap (la : Int) = (la : Int) := i64_in (by omega)
        have hwT : IntKind.i64.wrap (995 + (r : Int)) = (T : Int) := by rw [i64_in (by omega)]; exact hm3
        have hwr : IntKind.i64.wrap (r : Int) = (r : Int) := i64_in (by omega)
        have hx0 : (0 : Int) ≤ (idx : Int) := by omega
        have hx1 : (idx : Int) < (k : Int) := by omega
        clear HQ ht1 ht2 hm3 hr1 hi1 hl hk h0 hla hll hlt3
        go_region_held3 (fun w' => True) (go_keep) (first | (go_at_call 7; refine HR.out.mono ?_; rintro e w4 ⟨g4, rfl, hb4, q1, q2⟩))
        obtain ⟨w5, hw5⟩ : ∃ w5, w5 = w4.setCell ⟨w.heap.size, idx, none⟩ (.slice (some ⟨g4, 0, none⟩) T T) := ⟨_, rfl⟩
        have K5 : Hid (Rdy F w w5 w.heap.size (ks.set idx (ffKey g4 T)) k) := rdy_set K3.out.1 K3.out.2.2 H4.out.2 HT.out.2 HT.out.1 hb4.out.1 hb4.out.2.1 hb4.out.2.2 hw5
        rw [← hw5]
        clear hw5 hb4 q1 q2
        generalize ks.set idx (ffKey g4 T) = kz at K5
        clear K3
        go_wp2_with fail
        refine (build_rdy k true 2 6 K5.out (Or.inr ⟨rfl, rfl, rfl⟩)).mono ?_
        rintro e w6 ⟨sz, X, rfl, K6⟩
        generalize w5.heap.size = pg at K6 ⊢
        go_wp2_with fail
        refine (clone_pg K6.out).mono ?_
        rintro e w7 ⟨g7, c7, rfl, K7⟩
        go_wp2_with fail
        refine (ascend_pg 1 K7.out.1 (Or.inr ⟨rfl, rfl, rfl⟩) (by omega)).mono ?_
        rintro e w8 ⟨rfl, K8⟩
        have KB : Hid (BIn w8 (some ⟨g7, 0, none⟩) sz X) := bin_in K7.out.2 K8.out.2
        clear K7
        go_wp2_with fail
        refine (model_pg k 1 K8.out.1.rdy (by omega) (by omega)).mono ?_
        rintro e w9 ⟨rfl, q9, hw9⟩
        subst w9
        generalize okB (xsOf kz) 1 k = bb
        have HE : Hid (Calls Ybaf.prog 12 #[.slice (some ⟨pg, 0, none⟩) sz sz, .slice (some ⟨g7, 0, none⟩) sz c7] (w8.drewN q9) fun e w' => e = .returned (.bool true) ∧ w' = w8.drewN q9) := equal_pg c7 q9 K8.out.1 KB.out
        have HF : Hid (Below w.heap.size w (w8.drewN q9)) := K8.out.1.rdy.bel.trans ⟨rfl, rfl, rfl, Nat.le_refl _, fun _ _ => rfl⟩
        generalize w8.drewN q9 = w10 at *
        cases bb
        · go_wp2_with ((go_at_call 12; refine HE.out.mono ?_; rintro e w11 ⟨rfl, hw11⟩; subst w11))
          go_ret
          exact ⟨rfl, HF.out⟩
        · go_wp2_with ((go_at_call 12; refine HE.out.mono ?_; rintro e w11 ⟨rfl, hw11⟩; subst w11))
          go_ret
          exact ⟨rfl, HF.out⟩
set_option maxRecDepth 20000 in
set_option maxHeartbeats 4000000 in
theorem model_law_ttf (F : Interp) (a0 : Option Addr) (len0 cap0 la ll : Nat) (P : Nat → Option Addr) (N C : Nat → Nat) (kbs : Nat → List Int) (w : World) (h : In F w a0 len0 P N C kbs) (hl : len0 ≤ 1024) (hla : la < 256) (hll : ll < 256) (h0 : 0 < len0) :
    Calls Ybaf.prog 3 #[.slice a0 len0 cap0, .bool true, .bool true, .bool false, .int .u8 la, .int .u8 ll] w fun e w' => e = .returned (.bool true) ∧ Below w.heap.size w w' := by
  have HI : Hid _ := h
  clear h
  go_enter Ybaf.func3, Ybaf.ntmps3
  go_wp2
  go_loop [13, 14] (fun s i => ∃ k : Nat, k ≤ len0 ∧ i = .int .i64 k ∧ s = .int .i64 (sumN N k : Nat) ∧ sumN N k ≤ 2000 * k) (fun _ i => len0 - (intOf i).toNat)
  case atStart => exact ⟨0, Nat.zero_le _, rfl, rfl, Nat.le_refl _⟩
  case round =>
    obtain ⟨k, hk, rfl, rfl, hsum⟩ := hrel
    by_cases hlt : k < len0
    · obtain ⟨b, o, rfl, hc⟩ := HI.out.keys.at' (by omega)
      have hck := hc k hlt
      have hNk := HI.out.mx k hlt
      clear hc
      by_cases h2 : 2000 < N k
      · go_wp2
        go_ret
        exact ⟨rfl, Below.refl _ _⟩
      · have HS : Hid (sumN N (k + 1) = sumN N k + N k) := rfl
        go_wp2
        go_round
        case rel => exact ⟨k + 1, hlt, by go_num, congrArg (Value.int .i64) (by rw [HS.out]; omega), by rw [HS.out]; omega⟩
        case measure => simp [intOf]; omega
    · obtain rfl : k = len0 := by omega
      by_cases h4 : 40000 < sumN N k
      · go_wp2
        go_ret
        exact ⟨rfl, Below.refl _ _⟩
      · have H4 : Hid (sumN N k ≤ 40000 ∧ 0 < w.heap.size) := ⟨by omega, World.block_lt_of_cell? _ _ HI.out.kinds.leaf⟩
        have hdz : decide ((k : Int) = 0) = false := by simp; omega
        obtain ⟨i0, hi, hz0, hz1, hz2⟩ := info_parts Ybaf.info23
        go_wp2_with (first | (at_make; refine wpList_make_full _ rfl _ _ 22 rfl w.heap.size 23 i0 (.slice none 0 0) 1 Ybaf.underlying22 hi hz0 hz1 _ _ _ _ k rfl rfl (by omega) (by omega) (by rw [hz2]; omega) (by unfold maxLen; omega) (Nat.le_refl _) ?_))
        intro w1 hown hg
        have R1 : Hid (w1.heap[w.heap.size]? = some (.cells (List.replicate k (Value.slice none 0 0)).toArray 23 (0, 0)) ∧ Below w.heap.size w w1) := by
          refine ⟨row_made hown (by rw [toList_madeCells_one]), (Below.refl _ _).grown hg (Nat.le_refl _) (by simp)⟩
        clear hown hg hz0 hz1 hz2 hi i0 h4 hsum hlt
        obtain ⟨b, o, rfl, hc⟩ := HI.out.keys.at' h0
        have HC : Hid (∀ j v, ((ksOf P N C kbs k).map encK)[j]? = some v → w1.cell? ((⟨b, o, none⟩ : Addr).add j) = some v) := keys_src R1.out.2 hc
        clear hc
        have HL : Hid (((ksOf P N C kbs k).map encK).length = k ∧ k = Nat.min k k ∧ 0 + ((ksOf P N C kbs k).map encK).length ≤ (List.replicate k (Value.slice none 0 0)).length) := ⟨by rw [List.length_map, ksOf_len], (Nat.min_self k).symm, by rw [List.length_map, ksOf_len]; simp⟩
        go_wp2_with (refine wpList_copy_named rfl (.tmp 53) (.tmp 54) 22 22 rfl 23 Ybaf.underlying22 Ybaf.size23 w.heap.size 0 k k ⟨b, o, none⟩ k cap0 rfl rfl (List.replicate k (Value.slice none 0 0)) 23 ((ksOf P N C kbs k).map encK) k HL.out.1 HL.out.2.1 R1.out.1 HC.out HL.out.2.2 (encK_one _) ?_)
        intro w2 hw2
        have K2 : Hid (Rdy F w w2 w.heap.size (ksOf P N C kbs k) k ∧ w.heap.size < w2.heap.size ∧ sumK (ksOf P N C kbs k) ≤ 40000) := by
          have hu2 : Upd [w.heap.size] w1 w2 := by rw [hw2.out.1]; exact (Upd.refl _ _).setRow (by simp) _
          have hb2 : Below w.heap.size w w2 := Upd.below R1.out.2 hu2 (by simp) R1.out.2.size
          have hr := hw2.out.2
          rw [splice_all _ _ (by rw [HL.out.1]; simp)] at hr
          exact ⟨rdy_start HI.out hl H4.out.1 (keys_copied HI.out hb2 hr) hb2 (ksOf_len _ _ _ _ _) (ksOf_sum _ _ _ _ _), lt_of_block hr, by rw [ksOf_sum]; exact H4.out.1⟩
        clear hw2 HC HL R1
        go_wp2_with fail
        refine (sort_rdy k K2.out H4.out.2).mono ?_
        rintro e w3 ⟨rfl, ks, K3⟩
        clear K2
        have K5 : Hid (Rdy F w w3 w.heap.size ks k) := K3.out.1
        have hkn : ¬ k = 0 := by omega
        clear K3
        go_wp2_with fail
        refine (build_rdy k true 2 6 K5.out (Or.inr ⟨rfl, rfl, rfl⟩)).mono ?_
        rintro e w6 ⟨sz, X, rfl, K6⟩
        generalize w3.heap.size = pg at K6 ⊢
        go_wp2_with fail
        refine (clone_pg K6.out).mono ?_
        rintro e w7 ⟨g7, c7, rfl, K7⟩
        go_wp2_with fail
        refine (ascend_pg 1 K7.out.1 (Or.inr ⟨rfl, rfl, rfl⟩) (by omega)).mono ?_
        rintro e w8 ⟨rfl, K8⟩
        have KB : Hid (BIn w8 (some ⟨g7, 0, none⟩) sz X) := bin_in K7.out.2 K8.out.2
        clear K7
        go_wp2_with fail
        refine (model_pg k 1 K8.out.1.rdy (by omega) (by omega)).mono ?_
        rintro e w9 ⟨rfl, q9, hw9⟩
        subst w9
        generalize okB (xsOf ks) 1 k = bb
        have HE : Hid (Calls Ybaf.prog 12 #[.slice (some ⟨pg, 0, none⟩) sz sz, .slice (some ⟨g7, 0, none⟩) sz c7] (w8.drewN q9) fun e w' => e = .returned (.bool true) ∧ w' = w8.drewN q9) := equal_pg c7 q9 K8.out.1 KB.out
        have HF : Hid (Below w.heap.size w (w8.drewN q9)) := K8.out.1.rdy.bel.trans ⟨rfl, rfl, rfl, Nat.le_refl _, fun _ _ => rfl⟩
        generalize w8.drewN q9 = w10 at *
        cases bb
        · go_wp2_with ((go_at_call 12; refine HE.out.mono ?_; rintro e w11 ⟨rfl, hw11⟩; subst w11))
          go_ret
          exact ⟨rfl, HF.out⟩
        · go_wp2_with ((go_at_call 12; refine HE.out.mono ?_; rintro e w11 ⟨rfl, hw11⟩; subst w11))
          go_ret
          exact ⟨rfl, HF.out⟩
set_option maxRecDepth 20000 in
set_option maxHeartbeats 4000000 in
theorem model_law_ttt (F : Interp) (a0 : Option Addr) (len0 cap0 la ll : Nat) (P : Nat → Option Addr) (N C : Nat → Nat) (kbs : Nat → List Int) (w : World) (h : In F w a0 len0 P N C kbs) (hl : len0 ≤ 1024) (hla : la < 256) (hll : ll < 256) (h0 : 0 < len0) :
    Calls Ybaf.prog 3 #[.slice a0 len0 cap0, .bool true, .bool true, .bool true, .int .u8 la, .int .u8 ll] w fun e w' => e = .returned (.bool true) ∧ Below w.heap.size w w' := by
  have HI : Hid _ := h
  clear h
  go_enter Ybaf.func3, Ybaf.ntmps3
  go_wp2
  go_loop [13, 14] (fun s i => ∃ k : Nat, k ≤ len0 ∧ i = .int .i64 k ∧ s = .int .i64 (sumN N k : Nat) ∧ sumN N k ≤ 2000 * k) (fun _ i => len0 - (intOf i).toNat)
  case atStart => exact ⟨0, Nat.zero_le _, rfl, rfl, Nat.le_refl _⟩
  case round =>
    obtain ⟨k, hk, rfl, rfl, hsum⟩ := hrel
    by_cases hlt : k < len0
    · obtain ⟨b, o, rfl, hc⟩ := HI.out.keys.at' (by omega)
      have hck := hc k hlt
      have hNk := HI.out.mx k hlt
      clear hc
      by_cases h2 : 2000 < N k
      · go_wp2
        go_ret
        exact ⟨rfl, Below.refl _ _⟩
      · have HS : Hid (sumN N (k + 1) = sumN N k + N k) := rfl
        go_wp2
        go_round
        case rel => exact ⟨k + 1, hlt, by go_num, congrArg (Value.int .i64) (by rw [HS.out]; omega), by rw [HS.out]; omega⟩
        case measure => simp [intOf]; omega
    · obtain rfl : k = len0 := by omega
      by_cases h4 : 40000 < sumN N k
      · go_wp2
        go_ret
        exact ⟨rfl, Below.refl _ _⟩
      · have H4 : Hid (sumN N k ≤ 40000 ∧ 0 < w.heap.size) := ⟨by omega, World.block_lt_of_cell? _ _ HI.out.kinds.leaf⟩
        have hdz : decide ((k : Int) = 0) = false := by simp; omega
        obtain ⟨i0, hi, hz0, hz1, hz2⟩ := info_parts Ybaf.info23
        go_wp2_with (first | (at_make; refine wpList_make_full _ rfl _ _ 22 rfl w.heap.size 23 i0 (.slice none 0 0) 1 Ybaf.underlying22 hi hz0 hz1 _ _ _ _ k rfl rfl (by omega) (by omega) (by rw [hz2]; omega) (by unfold maxLen; omega) (Nat.le_refl _) ?_))
        intro w1 hown hg
        have R1 : Hid (w1.heap[w.heap.size]? = some (.cells (List.replicate k (Value.slice none 0 0)).toArray 23 (0, 0)) ∧ Below w.heap.size w w1) := by
          refine ⟨row_made hown (by rw [toList_madeCells_one]), (Below.refl _ _).grown hg (Nat.le_refl _) (by simp)⟩
        clear hown hg hz0 hz1 hz2 hi i0 h4 hsum hlt
        obtain ⟨b, o, rfl, hc⟩ := HI.out.keys.at' h0
        have HC : Hid (∀ j v, ((ksOf P N C kbs k).map encK)[j]? = some v → w1.cell? ((⟨b, o, none⟩ : Addr).add j) = some v) := keys_src R1.out.2 hc
        clear hc
        have HL : Hid (((ksOf P N C kbs k).map encK).length = k ∧ k = Nat.min k k ∧ 0 + ((ksOf P N C kbs k).map encK).length ≤ (List.replicate k (Value.slice none 0 0)).length) := ⟨by rw [List.length_map, ksOf_len], (Nat.min_self k).symm, by rw [List.length_map, ksOf_len]; simp⟩
        go_wp2_with (refine wpList_copy_named rfl (.tmp 53) (.tmp 54) 22 22 rfl 23 Ybaf.underlying22 Ybaf.size23 w.heap.size 0 k k ⟨b, o, none⟩ k cap0 rfl rfl (List.replicate k (Value.slice none 0 0)) 23 ((ksOf P N C kbs k).map encK) k HL.out.1 HL.out.2.1 R1.out.1 HC.out HL.out.2.2 (encK_one _) ?_)
        intro w2 hw2
        have K2 : Hid (Rdy F w w2 w.heap.size (ksOf P N C kbs k) k ∧ w.heap.size < w2.heap.size ∧ sumK (ksOf P N C kbs k) ≤ 40000) := by
          have hu2 : Upd [w.heap.size] w1 w2 := by rw [hw2.out.1]; exact (Upd.refl _ _).setRow (by simp) _
          have hb2 : Below w.heap.size w w2 := Upd.below R1.out.2 hu2 (by simp) R1.out.2.size
          have hr := hw2.out.2
          rw [splice_all _ _ (by rw [HL.out.1]; simp)] at hr
          exact ⟨rdy_start HI.out hl H4.out.1 (keys_copied HI.out hb2 hr) hb2 (ksOf_len _ _ _ _ _) (ksOf_sum _ _ _ _ _), lt_of_block hr, by rw [ksOf_sum]; exact H4.out.1⟩
        clear hw2 HC HL R1
        go_wp2_with fail
        refine (sort_rdy k K2.out H4.out.2).mono ?_
        rintro e w3 ⟨rfl, ks, K3⟩
        clear K2
        obtain ⟨idx, hidx⟩ : ∃ idx, idx = la % k := ⟨_, rfl⟩
        obtain ⟨r, hr⟩ : ∃ r, r = ll % 10 := ⟨_, rfl⟩
        obtain ⟨T, hT⟩ : ∃ T, T = 995 + r := ⟨_, rfl⟩
        have hi1 : idx < k := by rw [hidx]; exact Nat.mod_lt _ h0
        have hr1 : r < 10 := by omega
        have hm1 : (la : Int).tmod (k : Int) = (idx : Int) := by rw [hidx, Int.tmod_eq_emod_of_nonneg (by omega)]; omega
        have hm2 : (ll : Int).tmod 10 = (r : Int) := by rw [hr, Int.tmod_eq_emod_of_nonneg (by omega)]; omega
        have hm3 : (995 : Int) + (r : Int) = (T : Int) := by omega
        have ht1 : 995 ≤ T := by omega
        have ht2 : T ≤ 1004 := by omega
        have hc12 := K3.out.1.keys.row idx (by rw [K3.out.1.len]; exact hi1)
        rw [Nat.zero_add] at hc12
        have HQ : Hid (w3.cell? ⟨w.heap.size, idx, none⟩ = some (encK (ks.getD idx noKey)) ∧ w3.frozen? ⟨w.heap.size, idx, none⟩ = false) := hc12
        clear hidx hr hT hc12
        have hlt3 : w.heap.size < w3.heap.size := K3.out.2.1
        generalize encK (ks.getD idx noKey) = v0 at HQ
        have HT : Hid (T ≤ 1004 ∧ idx < k) := ⟨ht2, hi1⟩
        have HR : Hid (Calls Ybaf.prog 7 #[.slice (some ⟨w3.heap.size, 0, none⟩) 1 1, .int .i64 (T : Int)] (w3.alloc (.cells #[.int .u8 255] 5)).drew fun e w' => ∃ g, e = .returned (.slice (some ⟨g, 0, none⟩) T T) ∧ Hid (BIn w' (some ⟨g, 0, none⟩) T (List.replicate T 255) ∧ Below w3.heap.size w3 w' ∧ w.heap.size < g) ∧ w'.cell? ⟨w.heap.size, idx, none⟩ = some v0 ∧ w'.frozen? ⟨w.heap.size, idx, none⟩ = false) := by
          refine (repeat_ff w3.heap.size T _ (new255 w3) ht1 ht2).mono ?_
          rintro e w' ⟨g, he, h1, h2, h3⟩
          have hk := keepC HQ.out h2
          refine ⟨g, he, ⟨h1, ?_, ?_⟩, hk.1, hk.2⟩
          · exact (((Below.refl _ w3).alloc (Nat.le_refl _) _).drew).trans (h2.mono (by simp))
          · simp at h3; omega
        go_wp2_with fail
        have hkz : ¬ (k : Int) = 0 := by omega
        have hrem := run_rem hkz hm1
        have hkn : ¬ k = 0 := by omega
        have hkn1 : (k = 0) = False := by simp; omega
        have hkn2 : ((k : Int) = 0) = False := by simp; omega
        have hwla : IntKind.i64.wrap (la : Int) = (la : Int) := i64_in (by omega)
        have hwT : IntKind.i64.wrap (995 + (r : Int)) = (T : Int) := by rw [i64_in (by omega)]; exact hm3
        have hwr : IntKind.i64.wrap (r : Int) = (r : Int) := i64_in (by omega)
        have hx0 : (0 : Int) ≤ (idx : Int) := by omega
        have hx1 : (idx : Int) < (k : Int) := by omega
        clear HQ ht1 ht2 hm3 hr1 hi1 hl hk h0 hla hll hlt3
        go_region_held3 (fun w' => True) (go_keep) (first | (go_at_call 7; refine HR.out.mono ?_; rintro e w4 ⟨g4, rfl, hb4, q1, q2⟩))
        obtain ⟨w5, hw5⟩ : ∃ w5, w5 = w4.setCell ⟨w.heap.size, idx, none⟩ (.slice (some ⟨g4, 0, none⟩) T T) := ⟨_, rfl⟩
        have K5 : Hid (Rdy F w w5 w.heap.size (ks.set idx (ffKey g4 T)) k) := rdy_set K3.out.1 K3.out.2.2 H4.out.2 HT.out.2 HT.out.1 hb4.out.1 hb4.out.2.1 hb4.out.2.2 hw5
        rw [← hw5]
        clear hw5 hb4 q1 q2
        generalize ks.set idx (ffKey g4 T) = kz at K5
        clear K3
        go_wp2_with fail
        refine (build_rdy k true 2 6 K5.out (Or.inr ⟨rfl, rfl, rfl⟩)).mono ?_
        rintro e w6 ⟨sz, X, rfl, K6⟩
        generalize w5.heap.size = pg at K6 ⊢
        go_wp2_with fail
        refine (clone_pg K6.out).mono ?_
        rintro e w7 ⟨g7, c7, rfl, K7⟩
        go_wp2_with fail
        refine (ascend_pg 1 K7.out.1 (Or.inr ⟨rfl, rfl, rfl⟩) (by omega)).mono ?_
        rintro e w8 ⟨rfl, K8⟩
        have KB : Hid (BIn w8 (some ⟨g7, 0, none⟩) sz X) := bin_in K7.out.2 K8.out.2
        clear K7
        go_wp2_with fail
        refine (model_pg k 1 K8.out.1.rdy (by omega) (by omega)).mono ?_
        rintro e w9 ⟨rfl, q9, hw9⟩
        subst w9
        generalize okB (xsOf kz) 1 k = bb
        have HE : Hid (Calls Ybaf.prog 12 #[.slice (some ⟨pg, 0, none⟩) sz sz, .slice (some ⟨g7, 0, none⟩) sz c7] (w8.drewN q9) fun e w' => e = .returned (.bool true) ∧ w' = w8.drewN q9) := equal_pg c7 q9 K8.out.1 KB.out
        have HF : Hid (Below w.heap.size w (w8.drewN q9)) := K8.out.1.rdy.bel.trans ⟨rfl, rfl, rfl, Nat.le_refl _, fun _ _ => rfl⟩
        generalize w8.drewN q9 = w10 at *
        cases bb
        · go_wp2_with ((go_at_call 12; refine HE.out.mono ?_; rintro e w11 ⟨rfl, hw11⟩; subst w11))
          go_ret
          exact ⟨rfl, HF.out⟩
        · go_wp2_with ((go_at_call 12; refine HE.out.mono ?_; rintro e w11 ⟨rfl, hw11⟩; subst w11))
          go_ret
          exact ⟨rfl, HF.out⟩
set_option maxRecDepth 20000 in
set_option maxHeartbeats 4000000 in
theorem model_zero_ff (F : Interp) (a0 : Option Addr) (k cap0 la ll : Nat) (P : Nat → Option Addr) (N C : Nat → Nat) (kbs : Nat → List Int) (w : World) (h : In F w a0 k P N C kbs) (hk : k = 0) :
    Calls Ybaf.prog 3 #[.slice a0 k cap0, .bool false, .bool false, .bool false, .int .u8 la, .int .u8 ll] w fun e w' => e = .returned (.bool true) ∧ Below w.heap.size w w' := by
  have HI : Hid (In F w a0 k P N C kbs ∧ k = 0 ∧ 0 < w.heap.size) := ⟨h, hk, World.block_lt_of_cell? _ _ h.kinds.leaf⟩
  have hl : k ≤ 1024 := by omega
  have hd : decide ((0 : Int) < (k : Int)) = false := by simp; omega
  have hk0 : k ≤ 0 := by omega
  have hk1 : (k : Int) ≤ 0 := by omega
  have hk2 : ¬ 0 < k := by omega
  clear h hk
  go_enter Ybaf.func3, Ybaf.ntmps3
  go_wp2
  go_loop [13, 14] (fun s i => i = .int .i64 (k : Nat) ∧ s = .int .i64 (0 : Nat)) (fun _ i => 0)
  case atStart => exact ⟨by rw [HI.out.2.1]; rfl, rfl⟩
  case round =>
    obtain ⟨rfl, rfl⟩ := hrel
    obtain ⟨i0, hi, hz0, hz1, hz2⟩ := info_parts Ybaf.info23
    go_wp2_with (first | (at_make; refine wpList_make_full _ rfl _ _ 22 rfl w.heap.size 23 i0 (.slice none 0 0) 1 Ybaf.underlying22 hi hz0 hz1 _ _ _ _ k rfl rfl (by omega) (by omega) (by rw [hz2]; omega) (by unfold maxLen; omega) (Nat.le_refl _) ?_))
    intro w3 hown hg
    obtain ⟨ks, hks⟩ : ∃ ks : List Key, ks = [] := ⟨_, rfl⟩
    have K2 : Hid (Rdy F w w3 w.heap.size ks k ∧ w.heap.size < w3.heap.size ∧ sumK ks ≤ 40000) := by
      have hb : Below w.heap.size w w3 := (Below.refl _ _).grown hg (Nat.le_refl _) (by simp)
      have hr := row_made hown (by rw [toList_madeCells_one])
      subst hks
      have hkk : Keys w3 w.heap.size [] := ⟨fun j hj => absurd hj (Nat.not_lt_zero _), fun k hk => (by cases hk), fun k hk => (by cases hk)⟩
      exact ⟨rdy_start HI.out.1 hl (by rw [HI.out.2.1]; exact Nat.zero_le _) hkk hb HI.out.2.1.symm (by rw [HI.out.2.1]; rfl), lt_of_block hr, Nat.zero_le _⟩
    clear hown hg hz0 hz1 hz2 hi i0 hks
    go_wp2_with (refine wpList_copy_nothing rfl (.tmp 53) (.tmp 54) 22 22 rfl 23 Ybaf.underlying22 Ybaf.size23 (some ⟨w.heap.size, 0, none⟩) a0 k k k cap0 rfl rfl (by rw [HI.out.2.1]; rfl) ?_)
    have K4 := K2
    have K5 : Hid (Rdy F w w3 w.heap.size ks k) := K4.out.1
    clear K4
    go_wp2_with fail
    refine (build_rdy k false 1 4 K5.out (Or.inl ⟨rfl, rfl, rfl⟩)).mono ?_
    rintro e w6 ⟨sz, X, rfl, K6⟩
    generalize w3.heap.size = pg at K6 ⊢
    go_wp2_with fail
    refine (clone_pg K6.out).mono ?_
    rintro e w7 ⟨g7, c7, rfl, K7⟩
    go_wp2_with fail
    refine (ascend_pg 0 K7.out.1 (Or.inl ⟨rfl, rfl, rfl⟩) (by omega)).mono ?_
    rintro e w8 ⟨rfl, K8⟩
    have KB : Hid (BIn w8 (some ⟨g7, 0, none⟩) sz X) := bin_in K7.out.2 K8.out.2
    clear K7
    go_wp2_with fail
    refine (model_pg k 0 K8.out.1.rdy (by omega) (by omega)).mono ?_
    rintro e w9 ⟨rfl, q9, hw9⟩
    subst w9
    generalize okB (xsOf ks) 0 k = bb
    have HE : Hid (Calls Ybaf.prog 12 #[.slice (some ⟨pg, 0, none⟩) sz sz, .slice (some ⟨g7, 0, none⟩) sz c7] (w8.drewN q9) fun e w' => e = .returned (.bool true) ∧ w' = w8.drewN q9) := equal_pg c7 q9 K8.out.1 KB.out
    have HF : Hid (Below w.heap.size w (w8.drewN q9)) := K8.out.1.rdy.bel.trans ⟨rfl, rfl, rfl, Nat.le_refl _, fun _ _ => rfl⟩
    generalize w8.drewN q9 = w10 at *
    cases bb
    · go_wp2_with ((go_at_call 12; refine HE.out.mono ?_; rintro e w11 ⟨rfl, hw11⟩; subst w11))
      go_ret
      exact ⟨rfl, HF.out⟩
    · go_wp2_with ((go_at_call 12; refine HE.out.mono ?_; rintro e w11 ⟨rfl, hw11⟩; subst w11))
      go_ret
      exact ⟨rfl, HF.out⟩
set_option maxRecDepth 20000 in
set_option maxHeartbeats 4000000 in
theorem model_zero_ft (F : Interp) (a0 : Option Addr) (k cap0 la ll : Nat) (P : Nat → Option Addr) (N C : Nat → Nat) (kbs : Nat → List Int) (w : World) (h : In F w a0 k P N C kbs) (hk : k = 0) :
    Calls Ybaf.prog 3 #[.slice a0 k cap0, .bool false, .bool false, .bool true, .int .u8 la, .int .u8 ll] w fun e w' => e = .returned (.bool true) ∧ Below w.heap.size w w' := by
  have HI : Hid (In F w a0 k P N C kbs ∧ k = 0 ∧ 0 < w.heap.size) := ⟨h, hk, World.block_lt_of_cell? _ _ h.kinds.leaf⟩
  have hl : k ≤ 1024 := by omega
  have hd : decide ((0 : Int) < (k : Int)) = false := by simp; omega
  have hk0 : k ≤ 0 := by omega
  have hk1 : (k : Int) ≤ 0 := by omega
  have hk2 : ¬ 0 < k := by omega
  clear h hk
  go_enter Ybaf.func3, Ybaf.ntmps3
  go_wp2
  go_loop [13, 14] (fun s i => i = .int .i64 (k : Nat) ∧ s = .int .i64 (0 : Nat)) (fun _ i => 0)
  case atStart => exact ⟨by rw [HI.out.2.1]; rfl, rfl⟩
  case round =>
    obtain ⟨rfl, rfl⟩ := hrel
    obtain ⟨i0, hi, hz0, hz1, hz2⟩ := info_parts Ybaf.info23
    go_wp2_with (first | (at_make; refine wpList_make_full _ rfl _ _ 22 rfl w.heap.size 23 i0 (.slice none 0 0) 1 Ybaf.underlying22 hi hz0 hz1 _ _ _ _ k rfl rfl (by omega) (by omega) (by rw [hz2]; omega) (by unfold maxLen; omega) (Nat.le_refl _) ?_))
    intro w3 hown hg
    obtain ⟨ks, hks⟩ : ∃ ks : List Key, ks = [] := ⟨_, rfl⟩
    have K2 : Hid (Rdy F w w3 w.heap.size ks k ∧ w.heap.size < w3.heap.size ∧ sumK ks ≤ 40000) := by
      have hb : Below w.heap.size w w3 := (Below.refl _ _).grown hg (Nat.le_refl _) (by simp)
      have hr := row_made hown (by rw [toList_madeCells_one])
      subst hks
      have hkk : Keys w3 w.heap.size [] := ⟨fun j hj => absurd hj (Nat.not_lt_zero _), fun k hk => (by cases hk), fun k hk => (by cases hk)⟩
      exact ⟨rdy_start HI.out.1 hl (by rw [HI.out.2.1]; exact Nat.zero_le _) hkk hb HI.out.2.1.symm (by rw [HI.out.2.1]; rfl), lt_of_block hr, Nat.zero_le _⟩
    clear hown hg hz0 hz1 hz2 hi i0 hks
    go_wp2_with (refine wpList_copy_nothing rfl (.tmp 53) (.tmp 54) 22 22 rfl 23 Ybaf.underlying22 Ybaf.size23 (some ⟨w.heap.size, 0, none⟩) a0 k k k cap0 rfl rfl (by rw [HI.out.2.1]; rfl) ?_)
    have K4 := K2
    have K5 : Hid (Rdy F w w3 w.heap.size ks k) := K4.out.1
    clear K4
    go_wp2_with fail
    refine (build_rdy k false 1 4 K5.out (Or.inl ⟨rfl, rfl, rfl⟩)).mono ?_
    rintro e w6 ⟨sz, X, rfl, K6⟩
    generalize w3.heap.size = pg at K6 ⊢
    go_wp2_with fail
    refine (clone_pg K6.out).mono ?_
    rintro e w7 ⟨g7, c7, rfl, K7⟩
    go_wp2_with fail
    refine (ascend_pg 0 K7.out.1 (Or.inl ⟨rfl, rfl, rfl⟩) (by omega)).mono ?_
    rintro e w8 ⟨rfl, K8⟩
    have KB : Hid (BIn w8 (some ⟨g7, 0, none⟩) sz X) := bin_in K7.out.2 K8.out.2
    clear K7
    go_wp2_with fail
    refine (model_pg k 0 K8.out.1.rdy (by omega) (by omega)).mono ?_
    rintro e w9 ⟨rfl, q9, hw9⟩
    subst w9
    generalize okB (xsOf ks) 0 k = bb
    have HE : Hid (Calls Ybaf.prog 12 #[.slice (some ⟨pg, 0, none⟩) sz sz, .slice (some ⟨g7, 0, none⟩) sz c7] (w8.drewN q9) fun e w' => e = .returned (.bool true) ∧ w' = w8.drewN q9) := equal_pg c7 q9 K8.out.1 KB.out
    have HF : Hid (Below w.heap.size w (w8.drewN q9)) := K8.out.1.rdy.bel.trans ⟨rfl, rfl, rfl, Nat.le_refl _, fun _ _ => rfl⟩
    generalize w8.drewN q9 = w10 at *
    cases bb
    · go_wp2_with ((go_at_call 12; refine HE.out.mono ?_; rintro e w11 ⟨rfl, hw11⟩; subst w11))
      go_ret
      exact ⟨rfl, HF.out⟩
    · go_wp2_with ((go_at_call 12; refine HE.out.mono ?_; rintro e w11 ⟨rfl, hw11⟩; subst w11))
      go_ret
      exact ⟨rfl, HF.out⟩
set_option maxRecDepth 20000 in
set_option maxHeartbeats 4000000 in
theorem model_zero_tf (F : Interp) (a0 : Option Addr) (k cap0 la ll : Nat) (P : Nat → Option Addr) (N C : Nat → Nat) (kbs : Nat → List Int) (w : World) (h : In F w a0 k P N C kbs) (hk : k = 0) :
    Calls Ybaf.prog 3 #[.slice a0 k cap0, .bool false, .bool true, .bool false, .int .u8 la, .int .u8 ll] w fun e w' => e = .returned (.bool true) ∧ Below w.heap.size w w' := by
  have HI : Hid (In F w a0 k P N C kbs ∧ k = 0 ∧ 0 < w.heap.size) := ⟨h, hk, World.block_lt_of_cell? _ _ h.kinds.leaf⟩
  have hl : k ≤ 1024 := by omega
  have hd : decide ((0 : Int) < (k : Int)) = false := by simp; omega
  have hk0 : k ≤ 0 := by omega
  have hk1 : (k : Int) ≤ 0 := by omega
  have hk2 : ¬ 0 < k := by omega
  clear h hk
  go_enter Ybaf.func3, Ybaf.ntmps3
  go_wp2
  go_loop [13, 14] (fun s i => i = .int .i64 (k : Nat) ∧ s = .int .i64 (0 : Nat)) (fun _ i => 0)
  case atStart => exact ⟨by rw [HI.out.2.1]; rfl, rfl⟩
  case round =>
    obtain ⟨rfl, rfl⟩ := hrel
    obtain ⟨i0, hi, hz0, hz1, hz2⟩ := info_parts Ybaf.info23
    go_wp2_with (first | (at_make; refine wpList_make_full _ rfl _ _ 22 rfl w.heap.size 23 i0 (.slice none 0 0) 1 Ybaf.underlying22 hi hz0 hz1 _ _ _ _ k rfl rfl (by omega) (by omega) (by rw [hz2]; omega) (by unfold maxLen; omega) (Nat.le_refl _) ?_))
    intro w3 hown hg
    obtain ⟨ks, hks⟩ : ∃ ks : List Key, ks = [] := ⟨_, rfl⟩
    have K2 : Hid (Rdy F w w3 w.heap.size ks k ∧ w.heap.size < w3.heap.size ∧ sumK ks ≤ 40000) := by
      have hb : Below w.heap.size w w3 := (Below.refl _ _).grown hg (Nat.le_refl _) (by simp)
      have hr := row_made hown (by rw [toList_madeCells_one])
      subst hks
      have hkk : Keys w3 w.heap.size [] := ⟨fun j hj => absurd hj (Nat.not_lt_zero _), fun k hk => (by cases hk), fun k hk => (by cases hk)⟩
      exact ⟨rdy_start HI.out.1 hl (by rw [HI.out.2.1]; exact Nat.zero_le _) hkk hb HI.out.2.1.symm (by rw [HI.out.2.1]; rfl), lt_of_block hr, Nat.zero_le _⟩
    clear hown hg hz0 hz1 hz2 hi i0 hks
    go_wp2_with (refine wpList_copy_nothing rfl (.tmp 53) (.tmp 54) 22 22 rfl 23 Ybaf.underlying22 Ybaf.size23 (some ⟨w.heap.size, 0, none⟩) a0 k k k cap0 rfl rfl (by rw [HI.out.2.1]; rfl) ?_)
    go_wp2_with fail
    refine (sort_rdy k K2.out HI.out.2.2).mono ?_
    rintro e w4 ⟨rfl, ks4, K4⟩
    clear K2
    have K5 : Hid (Rdy F w w4 w.heap.size ks4 k) := K4.out.1
    clear K4
    go_wp2_with fail
    refine (build_rdy k false 1 4 K5.out (Or.inl ⟨rfl, rfl, rfl⟩)).mono ?_
    rintro e w6 ⟨sz, X, rfl, K6⟩
    generalize w4.heap.size = pg at K6 ⊢
    go_wp2_with fail
    refine (clone_pg K6.out).mono ?_
    rintro e w7 ⟨g7, c7, rfl, K7⟩
    go_wp2_with fail
    refine (ascend_pg 0 K7.out.1 (Or.inl ⟨rfl, rfl, rfl⟩) (by omega)).mono ?_
    rintro e w8 ⟨rfl, K8⟩
    have KB : Hid (BIn w8 (some ⟨g7, 0, none⟩) sz X) := bin_in K7.out.2 K8.out.2
    clear K7
    go_wp2_with fail
    refine (model_pg k 0 K8.out.1.rdy (by omega) (by omega)).mono ?_
    rintro e w9 ⟨rfl, q9, hw9⟩
    subst w9
    generalize okB (xsOf ks4) 0 k = bb
    have HE : Hid (Calls Ybaf.prog 12 #[.slice (some ⟨pg, 0, none⟩) sz sz, .slice (some ⟨g7, 0, none⟩) sz c7] (w8.drewN q9) fun e w' => e = .returned (.bool true) ∧ w' = w8.drewN q9) := equal_pg c7 q9 K8.out.1 KB.out
    have HF : Hid (Below w.heap.size w (w8.drewN q9)) := K8.out.1.rdy.bel.trans ⟨rfl, rfl, rfl, Nat.le_refl _, fun _ _ => rfl⟩
    generalize w8.drewN q9 = w10 at *
    cases bb
    · go_wp2_with ((go_at_call 12; refine HE.out.mono ?_; rintro e w11 ⟨rfl, hw11⟩; subst w11))
      go_ret
      exact ⟨rfl, HF.out⟩
    · go_wp2_with ((go_at_call 12; refine HE.out.mono ?_; rintro e w11 ⟨rfl, hw11⟩; subst w11))
      go_ret
      exact ⟨rfl, HF.out⟩
set_option maxRecDepth 20000 in
set_option maxHeartbeats 4000000 in
theorem model_zero_tt (F : Interp) (a0 : Option Addr) (k cap0 la ll : Nat) (P : Nat → Option Addr) (N C : Nat → Nat) (kbs : Nat → List Int) (w : World) (h : In F w a0 k P N C kbs) (hk : k = 0) :
    Calls Ybaf.prog 3 #[.slice a0 k cap0, .bool false, .bool true, .bool true, .int .u8 la, .int .u8 ll] w fun e w' => e = .returned (.bool true) ∧ Below w.heap.size w w' := by
  have HI : Hid (In F w a0 k P N C kbs ∧ k = 0 ∧ 0 < w.heap.size) := ⟨h, hk, World.block_lt_of_cell? _ _ h.kinds.leaf⟩
  have hl : k ≤ 1024 := by omega
  have hd : decide ((0 : Int) < (k : Int)) = false := by simp; omega
  have hk0 : k ≤ 0 := by omega
  have hk1 : (k : Int) ≤ 0 := by omega
  have hk2 : ¬ 0 < k := by omega
  clear h hk
  go_enter Ybaf.func3, Ybaf.ntmps3
  go_wp2
  go_loop [13, 14] (fun s i => i = .int .i64 (k : Nat) ∧ s = .int .i64 (0 : Nat)) (fun _ i => 0)
  case atStart => exact ⟨by rw [HI.out.2.1]; rfl, rfl⟩
  case round =>
    obtain ⟨rfl, rfl⟩ := hrel
    obtain ⟨i0, hi, hz0, hz1, hz2⟩ := info_parts Ybaf.info23
    go_wp2_with (first | (at_make; refine wpList_make_full _ rfl _ _ 22 rfl w.heap.size 23 i0 (.slice none 0 0) 1 Ybaf.underlying22 hi hz0 hz1 _ _ _ _ k rfl rfl (by omega) (by omega) (by rw [hz2]; omega) (by unfold maxLen; omega) (Nat.le_refl _) ?_))
    intro w3 hown hg
    obtain ⟨ks, hks⟩ : ∃ ks : List Key, ks = [] := ⟨_, rfl⟩
    have K2 : Hid (Rdy F w w3 w.heap.size ks k ∧ w.heap.size < w3.heap.size ∧ sumK ks ≤ 40000) := by
      have hb : Below w.heap.size w w3 := (Below.refl _ _).grown hg (Nat.le_refl _) (by simp)
      have hr := row_made hown (by rw [toList_madeCells_one])
      subst hks
      have hkk : Keys w3 w.heap.size [] := ⟨fun j hj => absurd hj (Nat.not_lt_zero _), fun k hk => (by cases hk), fun k hk => (by cases hk)⟩
      exact ⟨rdy_start HI.out.1 hl (by rw [HI.out.2.1]; exact Nat.zero_le _) hkk hb HI.out.2.1.symm (by rw [HI.out.2.1]; rfl), lt_of_block hr, Nat.zero_le _⟩
    clear hown hg hz0 hz1 hz2 hi i0 hks
    go_wp2_with (refine wpList_copy_nothing rfl (.tmp 53) (.tmp 54) 22 22 rfl 23 Ybaf.underlying22 Ybaf.size23 (some ⟨w.heap.size, 0, none⟩) a0 k k k cap0 rfl rfl (by rw [HI.out.2.1]; rfl) ?_)
    go_wp2_with fail
    refine (sort_rdy k K2.out HI.out.2.2).mono ?_
    rintro e w4 ⟨rfl, ks4, K4⟩
    clear K2
    have K5 : Hid (Rdy F w w4 w.heap.size ks4 k) := K4.out.1
    clear K4
    go_wp2_with fail
    refine (build_rdy k false 1 4 K5.out (Or.inl ⟨rfl, rfl, rfl⟩)).mono ?_
    rintro e w6 ⟨sz, X, rfl, K6⟩
    generalize w4.heap.size = pg at K6 ⊢
    go_wp2_with fail
    refine (clone_pg K6.out).mono ?_
    rintro e w7 ⟨g7, c7, rfl, K7⟩
    go_wp2_with fail
    refine (ascend_pg 0 K7.out.1 (Or.inl ⟨rfl, rfl, rfl⟩) (by omega)).mono ?_
    rintro e w8 ⟨rfl, K8⟩
    have KB : Hid (BIn w8 (some ⟨g7, 0, none⟩) sz X) := bin_in K7.out.2 K8.out.2
    clear K7
    go_wp2_with fail
    refine (model_pg k 0 K8.out.1.rdy (by omega) (by omega)).mono ?_
    rintro e w9 ⟨rfl, q9, hw9⟩
    subst w9
    generalize okB (xsOf ks4) 0 k = bb
    have HE : Hid (Calls Ybaf.prog 12 #[.slice (some ⟨pg, 0, none⟩) sz sz, .slice (some ⟨g7, 0, none⟩) sz c7] (w8.drewN q9) fun e w' => e = .returned (.bool true) ∧ w' = w8.drewN q9) := equal_pg c7 q9 K8.out.1 KB.out
    have HF : Hid (Below w.heap.size w (w8.drewN q9)) := K8.out.1.rdy.bel.trans ⟨rfl, rfl, rfl, Nat.le_refl _, fun _ _ => rfl⟩
    generalize w8.drewN q9 = w10 at *
    cases bb
    · go_wp2_with ((go_at_call 12; refine HE.out.mono ?_; rintro e w11 ⟨rfl, hw11⟩; subst w11))
      go_ret
      exact ⟨rfl, HF.out⟩
    · go_wp2_with ((go_at_call 12; refine HE.out.mono ?_; rintro e w11 ⟨rfl, hw11⟩; subst w11))
      go_ret
      exact ⟨rfl, HF.out⟩
set_option maxRecDepth 20000 in
theorem model_zero_int (a0 : Option Addr) (k cap0 : Nat) (v2 v3 v4 v5 : Value) (w : World) (hk : k = 0) :
    Calls Ybaf.prog 3 #[.slice a0 k cap0, .bool true, v2, v3, v4, v5] w fun e w' => e = .returned (.bool true) ∧ Below w.heap.size w w' := by
  have HK : Hid (k = 0) := hk
  have hl : k ≤ 1024 := by omega
  have hd : decide ((k : Int) = 0) = true := by simp; omega
  have hk0 : k ≤ 0 := by omega
  have hk1 : (k : Int) ≤ 0 := by omega
  clear hk
  go_enter Ybaf.func3, Ybaf.ntmps3
  go_wp2
  go_loop [13, 14] (fun s i => i = .int .i64 (k : Nat) ∧ s = .int .i64 (0 : Nat)) (fun _ i => 0)
  case atStart => exact ⟨by rw [HK.out]; rfl, rfl⟩
  case round =>
    obtain ⟨rfl, rfl⟩ := hrel
    go_wp2
    go_ret
    exact ⟨rfl, Below.refl _ _⟩

/-- LawS5056CModel, whatever comes in. -/
theorem model_law (F : Interp) (a0 : Option Addr) (len0 cap0 la ll : Nat) (i s l : Bool) (P : Nat → Option Addr) (N C : Nat → Nat) (kbs : Nat → List Int) (w : World) (h : In F w a0 len0 P N C kbs) (hla : la < 256) (hll : ll < 256) :
    Calls Ybaf.prog 3 #[.slice a0 len0 cap0, .bool i, .bool s, .bool l, .int .u8 la, .int .u8 ll] w fun e w' => e = .returned (.bool true) ∧ Below w.heap.size w w' := by
  by_cases hl : 1024 < len0
  · exact model_long a0 len0 cap0 _ _ _ _ _ w hl
  · by_cases h0 : len0 = 0
    · cases i
      · cases s <;> cases l
        · exact model_zero_ff F a0 len0 cap0 la ll P N C kbs w h h0
        · exact model_zero_ft F a0 len0 cap0 la ll P N C kbs w h h0
        · exact model_zero_tf F a0 len0 cap0 la ll P N C kbs w h h0
        · exact model_zero_tt F a0 len0 cap0 la ll P N C kbs w h h0
      · exact model_zero_int a0 len0 cap0 _ _ _ _ w h0
    · cases i <;> cases s <;> cases l
      · exact model_law_fff F a0 len0 cap0 la ll P N C kbs w h (by omega) hla hll (by omega)
      · exact model_law_fft F a0 len0 cap0 la ll P N C kbs w h (by omega) hla hll (by omega)
      · exact model_law_ftf F a0 len0 cap0 la ll P N C kbs w h (by omega) hla hll (by omega)
      · exact model_law_ftt F a0 len0 cap0 la ll P N C kbs w h (by omega) hla hll (by omega)
      · exact model_law_tff F a0 len0 cap0 la ll P N C kbs w h (by omega) hla hll (by omega)
      · exact model_law_tft F a0 len0 cap0 la ll P N C kbs w h (by omega) hla hll (by omega)
      · exact model_law_ttf F a0 len0 cap0 la ll P N C kbs w h (by omega) hla hll (by omega)
      · exact model_law_ttt F a0 len0 cap0 la ll P N C kbs w h (by omega) hla hll (by omega)
end Go.Proofs.YbulkczrmFmt
