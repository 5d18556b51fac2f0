import Derived.Test.YbulkczrmFmtSet
namespace Go.Proofs.YbulkczrmFmt
open Go.RowKit
set_option linter.unusedVariables false
set_option linter.unusedSimpArgs false

theorem setCell_any (g i A sz kl c t hd : Nat) (P : Option Addr) (kb X : List Int) (w : World) (h : w.heap[g]? = some (.cells (bcells X).toArray 5 (0, 0))) (hX : X.length = sz) (hs : sz < 65536) (h2 : X.getD 0 0 = (t : Int))
    (hi : 4 + 2 * i + 2 ≤ A) (hfit : A + hd + kl + 8 ≤ sz) (hK : Kinds w) (hg0 : 0 ≠ g) (hkh : KH t hd) (hbin : BIn w P kl kb) (hne : ∀ b o, 0 < kl → P = some ⟨b, o, none⟩ → b ≠ g) :
    Calls Ybaf.prog 21 #[.slice (some ⟨g, 0, none⟩) sz sz, .int .i64 i, .int .i64 A, .agg #[.slice P kl c, .slice none 0 0, .int .u32 0]] w fun e w' => e = .returned (.tuple #[]) ∧
      w'.heap[g]? = some (.cells (bcells (cellX t i A hd kl kb X)).toArray 5 (0, 0)) ∧ Upd [g] w w' := by
  rcases Nat.eq_zero_or_pos kl with h0 | h0
  · subst h0
    obtain rfl : kb = [] := List.eq_nil_of_length_eq_zero hbin.len
    rcases hkh with ⟨rfl, rfl⟩ | ⟨rfl, rfl⟩
    · exact setCell_leaf0 g i A sz c P X w h hX hs h2 hi hfit hK hg0
    · exact setCell_int0 g i A sz c P X w h hX hs h2 hi hfit hK hg0
  · obtain ⟨b, o, rfl, hc⟩ := hbin.at' h0
    rcases hkh with ⟨rfl, rfl⟩ | ⟨rfl, rfl⟩
    · exact setCell_leaf g i A sz kl c b o kb X w h hX hs h2 hi hfit hK hg0 h0 hbin.len (hne b o h0 rfl) hc
    · exact setCell_int g i A sz kl c b o kb X w h hX hs h2 hi hfit hK hg0 h0 hbin.len (hne b o h0 rfl) hc

/-- The keys: a slice of slices of bytes. -/
structure KeysIn (w : World) (a : Option Addr) (len : Nat) (P : Nat → Option Addr) (N C : Nat → Nat) (kbs : Nat → List Int) : Prop where
  at' : 0 < len → ∃ b o, a = some ⟨b, o, none⟩ ∧ ∀ i, i < len → w.cell? ⟨b, o + i, none⟩ = some (.slice (P i) (N i) (C i))
  els : ∀ i, i < len → BIn w (P i) (N i) (kbs i)
theorem bin_in {w W : World} {p : Option Addr} {n : Nat} {xs : List Int} (h : BIn w p n xs) (hb : Below w.heap.size w W) : BIn W p n xs :=
  h.cell fun a v ha => by rw [hb.cell (World.block_lt_of_cell? _ _ ha)]; exact ha
theorem cell_in {w W : World} {a : Addr} {v : Value} (hb : Below w.heap.size w W) (h : w.cell? a = some v) : W.cell? a = some v := by
  rw [hb.cell (World.block_lt_of_cell? _ _ h)]; exact h
theorem KeysIn.in' {w W : World} {a : Option Addr} {len : Nat} {P : Nat → Option Addr} {N C : Nat → Nat} {kbs : Nat → List Int} (h : KeysIn w a len P N C kbs) (hb : Below w.heap.size w W) : KeysIn W a len P N C kbs :=
  ⟨fun h0 => by obtain ⟨b, o, e, hc⟩ := h.at' h0; exact ⟨b, o, e, fun i hi => cell_in hb (hc i hi)⟩, fun i hi => bin_in (h.els i hi) hb⟩

set_option maxRecDepth 20000 in
set_option maxHeartbeats 1000000 in
theorem build_leaf (a : Option Addr) (n cap : Nat) (P : Nat → Option Addr) (N C : Nat → Nat) (kbs : Nat → List Int) (w : World) (hK : KeysIn w a n P N C kbs) (hk : Kinds w) (hn : n ≤ 1026) (hsz : ofsN n 4 N n ≤ 62000) :
    Calls Ybaf.prog 8 #[.slice a n cap, .bool false] w fun e w' => ∃ X, e = .returned (.slice (some ⟨w.heap.size, 0, none⟩) (ofsN n 4 N n) (ofsN n 4 N n)) ∧
      w'.heap[w.heap.size]? = some (.cells (bcells X).toArray 5 (0, 0)) ∧ Built X (ofsN n 4 N n) n n 1 4 N kbs ∧ Below w.heap.size w w' := by
  have HK : Hid _ := hK
  have HN : Hid (∀ j, j ≤ n → ofsN n 4 N j ≤ 62000) := fun j hj => Nat.le_trans (ofsN_le hj) hsz
  have HKi : Hid (Kinds w) := hk
  obtain ⟨hk1, hk2⟩ := hk
  have hlt0 := World.block_lt_of_cell? w _ hk1
  clear hK hsz
  go_enter Ybaf.func8, Ybaf.ntmps8
  go_wp2
  go_loop [9, 10] (fun sz i => ∃ j : Nat, j ≤ n ∧ i = .int .i64 j ∧ sz = .int .i64 (ofsN n 4 N j : Nat)) (fun _ i => n - (intOf i).toNat)
  case atStart => exact ⟨0, Nat.zero_le _, rfl, congrArg (Value.int .i64) (by simp [ofsN])⟩
  case round =>
    obtain ⟨j, hj, rfl, rfl⟩ := hrel
    have hb := HN.out j hj
    by_cases hjl : j < n
    · obtain ⟨b, o, rfl, hc⟩ := HK.out.at' (by omega)
      have hck := hc j hjl
      have hb2 := HN.out (j + 1) hjl
      have HS : Hid (ofsN n 4 N (j + 1) = ofsN n 4 N j + 4 + N j + 8) := rfl
      have hNj : N j ≤ 62000 := by have := HS.out; omega
      clear hc
      go_wp2
      go_round
      case rel => exact ⟨j + 1, by omega, by go_num, congrArg (Value.int .i64) (by rw [HS.out]; omega)⟩
      case measure => simp [intOf]; omega
    · obtain rfl : j = n := by omega
      obtain ⟨i0, hi, hz0, hz1, hz2⟩ := info_parts Ybaf.info5
      obtain ⟨sz, hsz⟩ : ∃ sz, sz = ofsN j 4 N j := ⟨_, rfl⟩
      have HSZ : Hid (sz = ofsN j 4 N j) := hsz
      have hsz1 : 4 + 2 * j ≤ sz := by rw [hsz]; exact ofsN_ge _ _ _ _
      simp only [← hsz]
      rw [← hsz] at hb
      clear hsz
      go_wp2_with (first | (at_make; refine wpList_make_full _ rfl _ _ 27 rfl w.heap.size 5 i0 (.int .u8 0) 1 Ybaf.underlying27 hi hz0 hz1 _ _ _ _ sz rfl rfl (by omega) (by omega) (by rw [hz2]; omega) (by unfold maxLen; omega) (Nat.le_refl _) ?_))
      intro w1 hown hg
      have R1 : Hid (w1.heap[w.heap.size]? = some (.cells (bcells (List.replicate sz 0)).toArray 5 (0, 0)) ∧ Below w.heap.size w w1) := by
        refine ⟨?_, (Below.refl _ _).grown hg (Nat.le_refl _) (by simp)⟩
        rcases hown.2 with ⟨h, _⟩ | ⟨g, c, cur, hv, _, hh, _, _, hs, ht⟩
        · cases h
        · simp only [Value.slice.injEq, Option.some.injEq, Addr.mk.injEq, and_true, true_and] at hv
          obtain ⟨rfl, rfl⟩ := hv
          have : cur.toList = bcells (List.replicate sz 0) := by
            rw [List.take_of_length_le (by simp [hs])] at ht
            rw [ht]
            rw [toList_madeCells_one]; simp [bcells]
          rw [hh, ← this]
      have k1 : w1.cell? ⟨w.heap.size, 0, none⟩ = some (.int .u8 ((List.replicate sz (0 : Int)).getD 0 0)) := cellB R1.out.1 (by simp; omega)
      have k2 : w1.frozen? ⟨w.heap.size, 0, none⟩ = false := frozen_of_row _ _ _ _ _ R1.out.1
      have hw3 : IntKind.u16.wrap (j : Int) = (j : Int) := u16_in (by omega) (by omega)
      have hsl := slice_from w.heap.size sz 2 (by omega) 2 (by omega)
      clear hown hg
      go_wp2
      go_region_held3 (fun w' => True) (go_keep) (first | (go_at_call 20; refine (put16_any w.heap.size 2 (sz - 2) (sz - 2) j (((List.replicate sz (0 : Int)).set 0 (1 : Nat))) _ (by exact setB R1.out.1 _) (by simp; omega) (by omega) (by omega)).mono ?_; rintro e w' ⟨rfl, hp16, hu16⟩))
      have hs1 := lt_of_block R1.out.1
      have hb2 : Below w.heap.size w w' := by
        have h1 := R1.out.2.setCell (p := ⟨w.heap.size, 0, none⟩) (Nat.le_refl _) (.int .u8 1)
        exact Upd.below h1.drew hu16 (by simp) (by simp; omega)
      have HX : Hid (w'.heap[w.heap.size]? = some (.cells (bcells (put16 ((List.replicate sz (0 : Int)).set 0 (1 : Nat)) 2 j)).toArray 5 (0, 0)) ∧ Below w.heap.size w w') := ⟨hp16, hb2⟩
      clear R1 hp16 hu16 hb2 k1 k2
      go_wp2
      go_loopw [12, 13] (fun at' c wr => ∃ (k : Nat) (X : List Int), k ≤ j ∧ c = .int .i64 k ∧ at' = .int .i64 (ofsN j 4 N k : Nat) ∧ Below w.heap.size w wr ∧ Hid (wr.heap[w.heap.size]? = some (.cells (bcells X).toArray 5 (0, 0)) ∧ Built X sz j k 1 4 N kbs)) (fun _ c _ => j - (intOf c).toNat)
      case atStart => exact ⟨0, _, Nat.zero_le _, rfl, congrArg (Value.int .i64) (by simp [ofsN]), HX.out.2, HX.out.1, built0 sz j 1 4 (by omega) (by omega) _ _⟩
      case round =>
        obtain ⟨k, X, hkj, rfl, rfl, hbel, HB⟩ := hrel
        clear HX
        have hok := HN.out k hkj
        by_cases hkn : k < j
        · obtain ⟨A, hA⟩ : ∃ A, A = ofsN j 4 N k := ⟨_, rfl⟩
          have hA1 : A + 4 + N k + 8 ≤ sz := by rw [hA, HSZ.out]; exact ofsN_lt hkn
          have hA2 : 4 + 2 * j ≤ A := by rw [hA]; exact ofsN_ge j _ _ k
          have HA : Hid (A = ofsN j 4 N k ∧ ofsN j 4 N (k + 1) = ofsN j 4 N k + 4 + N k + 8) := ⟨hA, rfl⟩
          simp only [← hA]
          obtain ⟨b, o, rfl, hcs⟩ := HK.out.at' (by omega)
          have hc0 := hcs k hkn
          have hbb := World.block_lt_of_cell? _ _ hc0
          have hck := cell_in hbel hc0
          have HE := HK.out.els k hkn
          clear hA
          have hNk : N k ≤ 62000 := by omega
          clear hc0 hcs
          go_wp2_with fail
          refine (setCell_any w.heap.size k A sz (N k) (C k) 1 4 (P k) (kbs k) X _ HB.out.1 HB.out.2.len (by omega) HB.out.2.typ (by omega) hA1 (HKi.out.cell fun a v ha => cell_in hbel ha) (by omega) (.inl ⟨rfl, rfl⟩) (bin_in HE hbel) (fun b' o' h0 hP => by
            obtain ⟨b2, o2, e2, hc2⟩ := HE.at' h0
            rw [hP] at e2; simp only [Option.some.injEq, Addr.mk.injEq, and_true] at e2
            obtain ⟨rfl, rfl⟩ := e2
            have hlt9 : b' < w.heap.size := World.block_lt_of_cell? _ _ (hc2 0 h0)
            omega)).mono ?_
          rintro e w2 ⟨rfl, hp2, hu2⟩
          have hbel2 : Below w.heap.size w w2 := Upd.below hbel hu2 (by simp) hbel.size
          have HP : Hid (w2.heap[w.heap.size]? = some (.cells (bcells (cellX 1 k A 4 (N k) (kbs k) X)).toArray 5 (0, 0)) ∧ Below w.heap.size w w2) := ⟨hp2, hbel2⟩
          have hck2 : w2.cell? ⟨b, o + k, none⟩ = some (.slice (P k) (N k) (C k)) := cell_upd hu2 hck (by simp; omega)
          clear hp2 hu2 hbel2 HE
          go_wp2
          go_roundw
          case rel =>
            refine ⟨k + 1, _, by omega, by go_num, congrArg (Value.int .i64) (by rw [HA.out.2, ← HA.out.1]; omega), HP.out.2, HP.out.1, ?_⟩
            have := HB.out.2.step hkn (by rw [HSZ.out]; exact Nat.le_refl _) (by omega) (HK.out.els k hkn).len (.inl ⟨rfl, rfl⟩)
            rw [← HA.out.1] at this
            exact this
          case measure => simp [intOf]; omega
        · obtain rfl : k = j := by omega
          go_wp2
          go_ret
          rw [← HSZ.out]
          exact ⟨X, rfl, HB.out.1, HB.out.2, hbel⟩
set_option maxRecDepth 20000 in
set_option maxHeartbeats 1000000 in
theorem build_int (a : Option Addr) (n cap : Nat) (P : Nat → Option Addr) (N C : Nat → Nat) (kbs : Nat → List Int) (w : World) (hK : KeysIn w a n P N C kbs) (hk : Kinds w) (hn : n ≤ 1026) (hsz : ofsN n 6 N n ≤ 62000) :
    Calls Ybaf.prog 8 #[.slice a n cap, .bool true] w fun e w' => ∃ X, e = .returned (.slice (some ⟨w.heap.size, 0, none⟩) (ofsN n 6 N n) (ofsN n 6 N n)) ∧
      w'.heap[w.heap.size]? = some (.cells (bcells X).toArray 5 (0, 0)) ∧ Built X (ofsN n 6 N n) n n 2 6 N kbs ∧ Below w.heap.size w w' := by
  have HK : Hid _ := hK
  have HN : Hid (∀ j, j ≤ n → ofsN n 6 N j ≤ 62000) := fun j hj => Nat.le_trans (ofsN_le hj) hsz
  have HKi : Hid (Kinds w) := hk
  obtain ⟨hk1, hk2⟩ := hk
  have hlt0 := World.block_lt_of_cell? w _ hk1
  clear hK hsz
  go_enter Ybaf.func8, Ybaf.ntmps8
  go_wp2
  go_loop [9, 10] (fun sz i => ∃ j : Nat, j ≤ n ∧ i = .int .i64 j ∧ sz = .int .i64 (ofsN n 6 N j : Nat)) (fun _ i => n - (intOf i).toNat)
  case atStart => exact ⟨0, Nat.zero_le _, rfl, congrArg (Value.int .i64) (by simp [ofsN])⟩
  case round =>
    obtain ⟨j, hj, rfl, rfl⟩ := hrel
    have hb := HN.out j hj
    by_cases hjl : j < n
    · obtain ⟨b, o, rfl, hc⟩ := HK.out.at' (by omega)
      have hck := hc j hjl
      have hb2 := HN.out (j + 1) hjl
      have HS : Hid (ofsN n 6 N (j + 1) = ofsN n 6 N j + 6 + N j + 8) := rfl
      have hNj : N j ≤ 62000 := by have := HS.out; omega
      clear hc
      go_wp2
      go_round
      case rel => exact ⟨j + 1, by omega, by go_num, congrArg (Value.int .i64) (by rw [HS.out]; omega)⟩
      case measure => simp [intOf]; omega
    · obtain rfl : j = n := by omega
      obtain ⟨i0, hi, hz0, hz1, hz2⟩ := info_parts Ybaf.info5
      obtain ⟨sz, hsz⟩ : ∃ sz, sz = ofsN j 6 N j := ⟨_, rfl⟩
      have HSZ : Hid (sz = ofsN j 6 N j) := hsz
      have hsz1 : 4 + 2 * j ≤ sz := by rw [hsz]; exact ofsN_ge _ _ _ _
      simp only [← hsz]
      rw [← hsz] at hb
      clear hsz
      go_wp2_with (first | (at_make; refine wpList_make_full _ rfl _ _ 27 rfl w.heap.size 5 i0 (.int .u8 0) 1 Ybaf.underlying27 hi hz0 hz1 _ _ _ _ sz rfl rfl (by omega) (by omega) (by rw [hz2]; omega) (by unfold maxLen; omega) (Nat.le_refl _) ?_))
      intro w1 hown hg
      have R1 : Hid (w1.heap[w.heap.size]? = some (.cells (bcells (List.replicate sz 0)).toArray 5 (0, 0)) ∧ Below w.heap.size w w1) := by
        refine ⟨?_, (Below.refl _ _).grown hg (Nat.le_refl _) (by simp)⟩
        rcases hown.2 with ⟨h, _⟩ | ⟨g, c, cur, hv, _, hh, _, _, hs, ht⟩
        · cases h
        · simp only [Value.slice.injEq, Option.some.injEq, Addr.mk.injEq, and_true, true_and] at hv
          obtain ⟨rfl, rfl⟩ := hv
          have : cur.toList = bcells (List.replicate sz 0) := by
            rw [List.take_of_length_le (by simp [hs])] at ht
            rw [ht]
            rw [toList_madeCells_one]; simp [bcells]
          rw [hh, ← this]
      have k1 : w1.cell? ⟨w.heap.size, 0, none⟩ = some (.int .u8 ((List.replicate sz (0 : Int)).getD 0 0)) := cellB R1.out.1 (by simp; omega)
      have k2 : w1.frozen? ⟨w.heap.size, 0, none⟩ = false := frozen_of_row _ _ _ _ _ R1.out.1
      have hw3 : IntKind.u16.wrap (j : Int) = (j : Int) := u16_in (by omega) (by omega)
      have hsl := slice_from w.heap.size sz 2 (by omega) 2 (by omega)
      clear hown hg
      go_wp2
      go_region_held3 (fun w' => True) (go_keep) (first | (go_at_call 20; refine (put16_any w.heap.size 2 (sz - 2) (sz - 2) j (((List.replicate sz (0 : Int)).set 0 (2 : Nat))) _ (by exact setB R1.out.1 _) (by simp; omega) (by omega) (by omega)).mono ?_; rintro e w' ⟨rfl, hp16, hu16⟩))
      have hs1 := lt_of_block R1.out.1
      have hb2 : Below w.heap.size w w' := by
        have h1 := R1.out.2.setCell (p := ⟨w.heap.size, 0, none⟩) (Nat.le_refl _) (.int .u8 2)
        exact Upd.below h1.drew hu16 (by simp) (by simp; omega)
      have HX : Hid (w'.heap[w.heap.size]? = some (.cells (bcells (put16 ((List.replicate sz (0 : Int)).set 0 (2 : Nat)) 2 j)).toArray 5 (0, 0)) ∧ Below w.heap.size w w') := ⟨hp16, hb2⟩
      clear R1 hp16 hu16 hb2 k1 k2
      go_wp2
      go_loopw [12, 13] (fun at' c wr => ∃ (k : Nat) (X : List Int), k ≤ j ∧ c = .int .i64 k ∧ at' = .int .i64 (ofsN j 6 N k : Nat) ∧ Below w.heap.size w wr ∧ Hid (wr.heap[w.heap.size]? = some (.cells (bcells X).toArray 5 (0, 0)) ∧ Built X sz j k 2 6 N kbs)) (fun _ c _ => j - (intOf c).toNat)
      case atStart => exact ⟨0, _, Nat.zero_le _, rfl, congrArg (Value.int .i64) (by simp [ofsN]), HX.out.2, HX.out.1, built0 sz j 2 6 (by omega) (by omega) _ _⟩
      case round =>
        obtain ⟨k, X, hkj, rfl, rfl, hbel, HB⟩ := hrel
        clear HX
        have hok := HN.out k hkj
        by_cases hkn : k < j
        · obtain ⟨A, hA⟩ : ∃ A, A = ofsN j 6 N k := ⟨_, rfl⟩
          have hA1 : A + 6 + N k + 8 ≤ sz := by rw [hA, HSZ.out]; exact ofsN_lt hkn
          have hA2 : 4 + 2 * j ≤ A := by rw [hA]; exact ofsN_ge j _ _ k
          have HA : Hid (A = ofsN j 6 N k ∧ ofsN j 6 N (k + 1) = ofsN j 6 N k + 6 + N k + 8) := ⟨hA, rfl⟩
          simp only [← hA]
          obtain ⟨b, o, rfl, hcs⟩ := HK.out.at' (by omega)
          have hc0 := hcs k hkn
          have hbb := World.block_lt_of_cell? _ _ hc0
          have hck := cell_in hbel hc0
          have HE := HK.out.els k hkn
          clear hA
          have hNk : N k ≤ 62000 := by omega
          clear hc0 hcs
          go_wp2_with fail
          refine (setCell_any w.heap.size k A sz (N k) (C k) 2 6 (P k) (kbs k) X _ HB.out.1 HB.out.2.len (by omega) HB.out.2.typ (by omega) hA1 (HKi.out.cell fun a v ha => cell_in hbel ha) (by omega) (.inr ⟨rfl, rfl⟩) (bin_in HE hbel) (fun b' o' h0 hP => by
            obtain ⟨b2, o2, e2, hc2⟩ := HE.at' h0
            rw [hP] at e2; simp only [Option.some.injEq, Addr.mk.injEq, and_true] at e2
            obtain ⟨rfl, rfl⟩ := e2
            have hlt9 : b' < w.heap.size := World.block_lt_of_cell? _ _ (hc2 0 h0)
            omega)).mono ?_
          rintro e w2 ⟨rfl, hp2, hu2⟩
          have hbel2 : Below w.heap.size w w2 := Upd.below hbel hu2 (by simp) hbel.size
          have HP : Hid (w2.heap[w.heap.size]? = some (.cells (bcells (cellX 2 k A 6 (N k) (kbs k) X)).toArray 5 (0, 0)) ∧ Below w.heap.size w w2) := ⟨hp2, hbel2⟩
          have hck2 : w2.cell? ⟨b, o + k, none⟩ = some (.slice (P k) (N k) (C k)) := cell_upd hu2 hck (by simp; omega)
          clear hp2 hu2 hbel2 HE
          go_wp2
          go_roundw
          case rel =>
            refine ⟨k + 1, _, by omega, by go_num, congrArg (Value.int .i64) (by rw [HA.out.2, ← HA.out.1]; omega), HP.out.2, HP.out.1, ?_⟩
            have := HB.out.2.step hkn (by rw [HSZ.out]; exact Nat.le_refl _) (by omega) (HK.out.els k hkn).len (.inr ⟨rfl, rfl⟩)
            rw [← HA.out.1] at this
            exact this
          case measure => simp [intOf]; omega
        · obtain rfl : k = j := by omega
          go_wp2
          go_ret
          rw [← HSZ.out]
          exact ⟨X, rfl, HB.out.1, HB.out.2, hbel⟩
/-- 'zzs5056cbuild': a new page that holds the keys. -/
theorem build_any (a : Option Addr) (n cap t hd : Nat) (int : Bool) (P : Nat → Option Addr) (N C : Nat → Nat) (kbs : Nat → List Int) (w : World) (hK : KeysIn w a n P N C kbs) (hk : Kinds w) (hn : n ≤ 1026) (hsz : ofsN n hd N n ≤ 62000) (hi : (int = false ∧ t = 1 ∧ hd = 4) ∨ (int = true ∧ t = 2 ∧ hd = 6)) :
    Calls Ybaf.prog 8 #[.slice a n cap, .bool int] w fun e w' => ∃ X, e = .returned (.slice (some ⟨w.heap.size, 0, none⟩) (ofsN n hd N n) (ofsN n hd N n)) ∧
      w'.heap[w.heap.size]? = some (.cells (bcells X).toArray 5 (0, 0)) ∧ Built X (ofsN n hd N n) n n t hd N kbs ∧ Below w.heap.size w w' := by
  rcases hi with ⟨rfl, rfl, rfl⟩ | ⟨rfl, rfl, rfl⟩
  · exact build_leaf a n cap P N C kbs w hK hk hn hsz
  · exact build_int a n cap P N C kbs w hK hk hn hsz
end Go.Proofs.YbulkczrmFmt
