import Derived.Test.YbulkczrmDoorPlain
import Derived.Test.YbulkczrmDoorSame
namespace Go.Proofs.YbulkczrmDoor
open Go.RowKit
set_option linter.unusedVariables false
set_option linter.unusedSimpArgs false

/-- The keys that came in. -/
structure KeysIn (w : World) (a : Option Addr) (len : Nat) (P : Nat → Option Addr) (N C : Nat → Nat) (kbs : Nat → List Int) : Prop where
  at' : 0 < len → ∃ b o, a = some ⟨b, o, none⟩ ∧ ∀ i, i < len → w.cell? ⟨b, o + i, none⟩ = some (.slice (P i) (N i) (C i))
  els : ∀ i, i < len → BIn w (P i) (N i) (kbs i)

/-- The children that came in. -/
structure ChIn (w : World) (a : Option Addr) (len : Nat) (zs : List Int) : Prop where
  at' : 0 < len → ∃ b o, a = some ⟨b, o, none⟩ ∧ ∀ i, i < len → w.cell? ⟨b, o + i, none⟩ = some (.int .u32 (zs.getD i 0))
  bd : ∀ i, i < len → 0 ≤ zs.getD i 0 ∧ zs.getD i 0 < 4294967296
  mx : len ≤ 9223372036854775807

def klF (N : Nat → Nat) : Nat → Nat
  | 0 => 0
  | j + 1 => N j
def kbF (kbs : Nat → List Int) : Nat → List Int
  | 0 => []
  | j + 1 => kbs j
def tailO (sz k : Nat) : Nat := if k = sz then 0 else k

theorem slice_tail (g sz k : Nat) (hk : k ≤ sz) (K : Int) (hK : K = (k : Int)) (W : World) :
    (Instr.slice 36 (.slice (some ⟨g, 0, none⟩) sz sz) (some (.int .i64 K)) none none).run Ybad.prog W = .ok (.slice (some ⟨g, tailO sz k, none⟩) (sz - k) (sz - k)) W := by
  subst hK
  rw [run_slice_l W 36 _ _ _ (by rw [elem36]; exact Ybad.underlying36) .i64 _ (by omega) (by omega), elem36, sizeOf5]
  by_cases h : sz = k
  · subst h; simp [sliced, Result.andThen, tailO]
  · have h' : ¬ k = sz := fun e => h e.symm
    simp [sliced, h, h', Addr.add_lit, Result.andThen, tailO]

theorem u16_in {n : Int} (h : 0 ≤ n) (h' : n < 65536) : IntKind.u16.wrap n = n := by
  simp only [IntKind.wrap, IntKind.bits, IntKind.signed, Bool.false_and, Int.reducePow]
  simp; omega
theorem built0 (sz n : Nat) (h : 4 ≤ sz) (hn : n < 65536) (kl ch : Nat → Nat) (kb : Nat → List Int) : Built (put16 ((List.replicate sz (0 : Int)).set 0 2) 2 n) sz n 0 kl ch kb := by
  refine ⟨by rw [len_put16]; simp, ?_, put16_U (by simp; omega) hn, fun j hj => absurd hj (Nat.not_lt_zero _), fun j hj => absurd hj (Nat.not_lt_zero _), fun j hj => absurd hj (Nat.not_lt_zero _), fun j hj => absurd hj (Nat.not_lt_zero _)⟩
  rw [put16_ne (by omega), getD_set_eq (by simp; omega)]; rfl
theorem chN_bd {w : World} {a : Option Addr} {len : Nat} {zs : List Int} (h : ChIn w a len zs) {c : Nat} (hc : c < 400) : chN len zs c < 4294967296 := by
  unfold chN
  split
  · have := h.bd c (by assumption); omega
  · omega
theorem chIn_cell {w w' : World} {a : Option Addr} {len : Nat} {zs : List Int} (h : ChIn w a len zs) (hb : Below w.heap.size w w') {c : Nat} : c < len → ∃ b o, a = some ⟨b, o, none⟩ ∧ w'.cell? ⟨b, o + c, none⟩ = some (.int .u32 (zs.getD c 0)) ∧ 0 ≤ zs.getD c 0 := by
  intro hc
  obtain ⟨b, o, e, hh⟩ := h.at' (by omega)
  refine ⟨b, o, e, ?_, (h.bd c hc).1⟩
  rw [hb.cell (World.block_lt_of_cell? _ _ (hh c hc))]; exact hh c hc
theorem splice_none {α : Type} (L : List α) (p : Nat) : splice L p [] = L := by simp [splice]
theorem bcells_splice (Y ks : List Int) (p : Nat) : splice (bcells Y) p (bcells ks) = bcells (splice Y p ks) := by simp [splice, bcells]
theorem cell?_alloc_one {w : World} {a : Addr} {v : Value} (o : Obj) (h : w.cell? a = some v) : (w.alloc o).cell? a = some v := by
  rw [World.cell?_alloc_lt _ _ _ (World.block_lt_of_cell? w _ h)]; exact h
theorem u32_wrap (n : Int) : IntKind.u32.wrap n = n % 4294967296 := by
  simp only [IntKind.wrap, IntKind.bits, IntKind.signed, Bool.false_and, Int.reducePow]
  rfl
theorem tree_of {wr : World} {g sz : Nat} {X : List Int} {pg lvl : Int} {a3 a4 : Option Addr} {len3 cap3 len4 cap4 : Nat} (h : wr.heap[g]? = some (.cells (bcells X).toArray 5 (0, 0))) (hk : wr.cell? ⟨3, 11, none⟩ = some (.int .i64 6)) :
    TreeAt (wr.alloc (.cells #[.int .u32 pg, .int .u32 lvl, .int .u32 7, .int .i64 3, .slice a3 len3 cap3, .slice a4 len4 cap4, .slice (some ⟨g, 0, none⟩) sz sz, .nilIface] 73)) wr.heap.size g X sz pg lvl a3 a4 len3 cap3 len4 cap4 := by
  refine ⟨?_, ?_, ?_, ?_, ?_, allocB _ h, cell?_alloc_one _ hk⟩ <;> rw [World.cell?_alloc_new] <;> rfl
theorem kbF_len {w : World} {a : Option Addr} {len : Nat} {P : Nat → Option Addr} {N C : Nat → Nat} {kbs : Nat → List Int} (h : KeysIn w a len P N C kbs) {i : Nat} (hi : i ≤ len) : (kbF kbs i).length = klF N i := by
  cases i with
  | zero => rfl
  | succ j => exact (h.els j (by omega)).len
theorem key_bin {W : World} {g sz n : Nat} {X : List Int} {kl ch : Nat → Nat} {kb : Nat → List Int} (hp : W.heap[g]? = some (.cells (bcells X).toArray 5 (0, 0))) (hB : Built X sz n n kl ch kb) (hsz : sz = ofsN n kl n) {i : Nat} (hi : i < n) (hl : (kb i).length = kl i) :
    BIn W (some ⟨g, koff (ofsN n kl i + 6) (kl i), none⟩) (kl i) (kb i) := by
  refine ⟨hl, fun h0 => ⟨g, ofsN n kl i + 6, ?_, fun j hj => ?_⟩⟩
  · unfold koff; rw [if_neg (by omega)]
  · have := ofsN_lt (n := n) (kl := kl) hi
    have hX := hB.len
    rw [cellB hp (by omega), hB.keys i hi j hj]
theorem bin_in {w W : World} {p : Option Addr} {n : Nat} {xs : List Int} (h : BIn w p n xs) (hb : Below w.heap.size w W) : BIn W p n xs :=
  h.cell fun a v ha => by rw [hb.cell (World.block_lt_of_cell? _ _ ha)]; exact ha
theorem ofsN_bd {n : Nat} {kl : Nat → Nat} : ∀ m, (∀ i, i < m → kl i ≤ 150) → ofsN n kl m ≤ 4 + 2 * n + 156 * m
  | 0, _ => by simp [ofsN]
  | m + 1, h => by
    have h1 := ofsN_bd (n := n) m (fun i hi => h i (by omega))
    have h2 := h m (by omega)
    show ofsN n kl m + 6 + kl m ≤ _
    omega
theorem klF_bd {N : Nat → Nat} {k : Nat} (h : ∀ j, j < k → N j ≤ 150) : ∀ i, i < k + 1 → klF N i ≤ 150 := by
  intro i hi
  cases i with
  | zero => simp [klF]
  | succ j => exact h j (by omega)
theorem ofsN_bd' {n k : Nat} {N : Nat → Nat} (hn : n ≤ 301) (hk : k ≤ 300) (h : ∀ j, j < k → N j ≤ 150) {m : Nat} (hm : m ≤ k + 1) : ofsN n (klF N) m ≤ 50000 := by
  have := ofsN_bd (n := n) (kl := klF N) m (fun i hi => klF_bd h i (by omega))
  omega

set_option maxRecDepth 20000 in
theorem law_long (a0 : Option Addr) (len0 cap0 : Nat) (v1 v2 v3 v4 v5 v6 : Value) (w : World) (h : 300 < len0) :
    Calls Ybad.prog 5 #[.slice a0 len0 cap0, v1, v2, v3, v4, v5, v6] w fun e w' => e = .returned (.bool true) ∧ Below w.heap.size w w' := by
  go_enter Ybad.func5, Ybad.ntmps5
  go_wp2
  go_ret
  exact ⟨rfl, Below.refl _ _⟩

set_option maxRecDepth 20000 in
set_option maxHeartbeats 1000000 in
theorem law_any (a0 : Option Addr) (len0 cap0 n : Nat) (P : Nat → Option Addr) (N C : Nat → Nat) (kbs : Nat → List Int) (a1 : Option Addr) (len1 cap1 : Nat) (zs : List Int) (s : Nat) (a3 a4 : Option Addr) (len3 cap3 len4 cap4 : Nat) (xs3 xs4 : List Int) (pg lvl : Int) (w : World)
    (hK : KeysIn w a0 len0 P N C kbs) (hC : ChIn w a1 len1 zs) (h3 : BIn w a3 len3 xs3) (h4 : BIn w a4 len4 xs4) (hkk : w.cell? ⟨3, 11, none⟩ = some (.int .i64 6)) (hl : len0 ≤ 300) (hn : n = len0 + 1) (hNm : ∀ i, i < len0 → N i ≤ 9223372036854775807) :
    Calls Ybad.prog 5 #[.slice a0 len0 cap0, .slice a1 len1 cap1, .int .u64 s, .slice a3 len3 cap3, .slice a4 len4 cap4, .int .u32 pg, .int .u32 lvl] w fun e w' => e = .returned (.bool true) ∧ Below w.heap.size w w' := by
  have HK : Hid _ := hK
  have HC : Hid _ := hC
  have H3 : Hid _ := h3
  have H4 : Hid _ := h4
  have HN : Hid (∀ i, i < len0 → N i ≤ 9223372036854775807) := hNm
  have HE : Hid (n = len0 + 1) := hn
  have hn1 : n ≤ 301 := by omega
  clear hK hC h3 h4 hNm hn
  go_enter Ybad.func5, Ybad.ntmps5
  go_wp2
  go_loop [34] (fun i => ∃ k : Nat, k ≤ len0 ∧ i = .int .i64 k ∧ Hid (∀ j, j < k → N j ≤ 150)) (fun i => len0 - (intOf i).toNat)
  case atStart => exact ⟨0, Nat.zero_le _, rfl, fun j hj => absurd hj (Nat.not_lt_zero _)⟩
  case round =>
    obtain ⟨k, hk, rfl, Hk⟩ := hrel
    by_cases hlt : k < len0
    · obtain ⟨b, o, rfl, hc⟩ := HK.out.at' (by omega)
      have hck := hc k hlt
      have hNk := HN.out k hlt
      clear hc
      by_cases h150 : 150 < N k
      · go_wp2
        go_ret
        exact ⟨rfl, Below.refl _ _⟩
      · go_wp2
        go_round
        case rel => exact ⟨k + 1, by omega, by go_num, fun j hj => by by_cases e : j = k; (· subst e; omega); (· exact Hk.out j (by omega))⟩
        case measure => simp [intOf]; omega
    · obtain rfl : k = len0 := by omega
      go_wp2
      go_loop [52, 19] (fun i sz => ∃ j : Nat, j ≤ k ∧ i = .int .i64 j ∧ sz = .int .i64 (ofsN n (klF N) (j + 1) : Nat)) (fun i _ => k - (intOf i).toNat)
      case atStart => exact ⟨0, Nat.zero_le _, rfl, congrArg (Value.int .i64) (by have := HE.out; simp [ofsN, klF]; omega)⟩
      case round =>
        obtain ⟨j, hj, rfl, rfl⟩ := hrel
        have hb := ofsN_bd' (n := n) hn1 hl Hk.out (show j + 1 ≤ k + 1 by omega)
        by_cases hjl : j < k
        · obtain ⟨b, o, rfl, hc⟩ := HK.out.at' (by omega)
          have hck := hc j hjl
          have hNk := Hk.out j hjl
          have HS : Hid (ofsN n (klF N) (j + 1 + 1) = ofsN n (klF N) (j + 1) + 6 + N j) := rfl
          clear hc
          go_wp2
          go_round
          case rel => exact ⟨j + 1, by omega, by go_num, congrArg (Value.int .i64) (by rw [HS.out]; omega)⟩
          case measure => simp [intOf]; omega
        · obtain rfl : j = k := by omega
          obtain ⟨i0, hi, hz0, hz1, hz2⟩ := info_parts Ybad.info5
          have hne : (j : Int) + 1 = (n : Int) := by have := HE.out; omega
          obtain ⟨sz, hsz⟩ : ∃ sz, sz = ofsN n (klF N) (j + 1) := ⟨_, rfl⟩
          have hsz1 : 4 + 2 * n + 6 ≤ sz := by
            have := ofsN_mono n (klF N) 0 1
            have h2 := ofsN_le (n := n) (kl := klF N) (show 0 + 1 ≤ j + 1 by omega)
            have h0 : ofsN n (klF N) 0 = 4 + 2 * n := rfl
            omega
          have hnp : 0 < n := by have := HE.out; omega
          have HSZ : Hid (sz = ofsN n (klF N) n) := by show sz = _; rw [hsz, show j + 1 = n from HE.out.symm]
          simp only [hne, ← hsz]
          rw [← hsz] at hb
          clear hne hsz
          go_wp2_with (first | (at_make; refine wpList_make_full _ rfl _ _ 36 rfl w.heap.size 5 i0 (.int .u8 0) 1 Ybad.underlying36 hi hz0 hz1 _ _ _ _ sz rfl rfl (by omega) (by omega) (by rw [hz2]; omega) (by unfold maxLen; omega) (Nat.le_refl _) ?_))
          intro w1 hown hg
          have R1 : Hid (w1.heap[w.heap.size]? = some (.cells (bcells (List.replicate sz 0)).toArray 5 (0, 0)) ∧ Below w.heap.size w w1) := by
            refine ⟨?_, (Below.refl _ _).grown hg (Nat.le_refl _) (by simp)⟩
            rcases hown.2 with ⟨h, _⟩ | ⟨g, c, cur, hv, _, hh, _, _, hs, ht⟩
            · cases h
            · simp only [Value.slice.injEq, Option.some.injEq, Addr.mk.injEq, and_true, true_and] at hv
              obtain ⟨rfl, rfl⟩ := hv
              have : cur.toList = bcells (List.replicate sz 0) := by
                rw [List.take_of_length_le (by simp [hs])] at ht
                rw [ht]
                rw [toList_madeCells_one]; simp [bcells]
              rw [hh, ← this]
          have k1 : w1.cell? ⟨w.heap.size, 0, none⟩ = some (.int .u8 ((List.replicate sz (0 : Int)).getD 0 0)) := cellB R1.out.1 (by simp; omega)
          have k2 : w1.frozen? ⟨w.heap.size, 0, none⟩ = false := frozen_of_row _ _ _ _ _ R1.out.1
          have hw3 : IntKind.u16.wrap (n : Int) = (n : Int) := u16_in (by omega) (by omega)
          have hsl := slice_from w.heap.size sz 2 (by omega) 2 (by omega)
          clear hown hg
          go_wp2
          go_region_held3 (fun w' => True) (go_keep) (first | (go_at_call 8; refine (put16_any w.heap.size 2 (sz - 2) (sz - 2) n (((List.replicate sz (0 : Int)).set 0 2)) _ (by exact setB R1.out.1 _) (by simp; omega) (by omega) (by omega)).mono ?_; rintro e w' ⟨rfl, hp16, hu16⟩))
          have hs1 := lt_of_block R1.out.1
          have hb2 : Below w.heap.size w w' := by
            have h1 := R1.out.2.setCell (p := ⟨w.heap.size, 0, none⟩) (Nat.le_refl _) (.int .u8 2)
            exact Upd.below h1.drew hu16 (by simp) (by simp; omega)
          have HX : Hid (w'.heap[w.heap.size]? = some (.cells (bcells (put16 ((List.replicate sz (0 : Int)).set 0 2) 2 n)).toArray 5 (0, 0)) ∧ Below w.heap.size w w') := ⟨hp16, hb2⟩
          clear R1 hp16 hu16 hb2 k1 k2
          go_wp2
          go_loopw [23, 24] (fun at' c wr => ∃ (k : Nat) (X : List Int), k ≤ n ∧ c = .int .i64 k ∧ at' = .int .i64 (ofsN n (klF N) k : Nat) ∧ Below w.heap.size w wr ∧ Hid (wr.heap[w.heap.size]? = some (.cells (bcells X).toArray 5 (0, 0)) ∧ Built X sz n k (klF N) (chN len1 zs) (kbF kbs))) (fun _ c _ => n - (intOf c).toNat)
          case atStart => exact ⟨0, _, Nat.zero_le _, rfl, congrArg (Value.int .i64) (by simp [ofsN]), HX.out.2, HX.out.1, built0 sz n (by omega) (by omega) _ _ _⟩
          case round =>
            obtain ⟨k, X, hk, rfl, rfl, hbel, HB⟩ := hrel
            clear HX
            have hok := ofsN_bd' (n := n) hn1 hl Hk.out (show k ≤ j + 1 by have := HE.out; omega)
            by_cases hkn : k < n
            · obtain ⟨A, hA⟩ : ∃ A, A = ofsN n (klF N) k := ⟨_, rfl⟩
              have hA1 : A + 6 + klF N k ≤ sz := by rw [hA, HSZ.out]; exact ofsN_lt hkn
              have hA2 : 4 + 2 * n ≤ A := by rw [hA]; exact ofsN_ge n _ k
              have HA : Hid (A = ofsN n (klF N) k ∧ ofsN n (klF N) (k + 1) = ofsN n (klF N) k + 6 + klF N k) := ⟨hA, rfl⟩
              simp only [← hA]
              have hsl1 := slice_from w.heap.size sz (4 + 2 * k) (by omega) (4 + 2 * (k : Int)) (by omega)
              have hsl2 := slice_from w.heap.size sz A (by omega) (A : Int) rfl
              have hsl3 := slice_from w.heap.size sz (A + 2) (by omega) ((A : Int) + 2) (by omega)
              have hw1 : IntKind.i64.wrap (2 * (k : Int)) = 2 * (k : Int) := i64_in (by omega)
              have hw2 : IntKind.i64.wrap (4 + 2 * (k : Int)) = 4 + 2 * (k : Int) := i64_in (by omega)
              have hwA : IntKind.u16.wrap (A : Int) = (A : Int) := u16_in (by omega) (by omega)
              have hwA2 : IntKind.i64.wrap ((A : Int) + 2) = (A : Int) + 2 := i64_in (by omega)
              have hXl := HB.out.2.len
              clear hA
              by_cases hk0 : k = 0
              · have HK0 : Hid (k = 0) := hk0
                have hk0' : (k : Int) ≤ 0 := by omega
                clear hk0
                have hk00 : IntKind.u16.wrap (0 : Int) = 0 := u16_in (by omega) (by omega)
                go_wp2
                go_region_held3 (fun w' => True) (go_keep) (first | (go_at_call 8; refine (put16_any w.heap.size (4 + 2 * k) (sz - (4 + 2 * k)) (sz - (4 + 2 * k)) A X _ (by exact HB.out.1) (by omega) (by omega) (by omega)).mono ?_; rintro e w2 ⟨rfl, hp2, hu2⟩))
                have P2 : Hid (w2.heap[w.heap.size]? = some (.cells (bcells (put16 X (4 + 2 * k) A)).toArray 5 (0, 0)) ∧ Below w.heap.size w w2) := ⟨hp2, Upd.below hbel.drew hu2 (by simp) (by have := lt_of_block HB.out.1; simp; omega)⟩
                clear hp2 hu2 hsl1
                go_wp2
                go_region_held3 (fun w' => True) (go_keep) (first | (go_at_call 8; refine (put16_any w.heap.size A (sz - A) (sz - A) (0) (put16 X (4 + 2 * k) A) _ (by exact P2.out.1) (by rw [len_put16]; omega) (by omega) (by omega)).mono ?_; rintro e w3 ⟨rfl, hp3, hu3⟩))
                have P3 : Hid (w3.heap[w.heap.size]? = some (.cells (bcells (put16 (put16 X (4 + 2 * k) A) A (0))).toArray 5 (0, 0)) ∧ Below w.heap.size w w3) := ⟨hp3, Upd.below P2.out.2.drew hu3 (by simp) (by have := lt_of_block P2.out.1; simp; omega)⟩
                clear hp3 hu3 hsl2 P2
                go_wp2
                go_region_held3 (fun w' => True) (go_keep) (first | (go_at_call 10; refine (bchild_any a1 len1 cap1 k (chN len1 zs k) zs _ rfl (by omega) (chIn_cell HC.out (by exact P3.out.2.drew)) HC.out.mx).mono ?_; rintro e w' ⟨rfl, rfl⟩) | (go_at_call 9; refine (put32_any w.heap.size (A + 2) (sz - (A + 2)) (sz - (A + 2)) (chN len1 zs k) (put16 (put16 X (4 + 2 * k) A) A (0)) _ (by exact P3.out.1) (by rw [len_put16, len_put16]; omega) (by omega) (chN_bd HC.out (by omega))).mono ?_; rintro e w4 ⟨rfl, hp4, hu4⟩))
                have P4 : Hid (w4.heap[w.heap.size]? = some (.cells (bcells (put32 (put16 (put16 X (4 + 2 * k) A) A (0)) (A + 2) (chN len1 zs k))).toArray 5 (0, 0)) ∧ Below w.heap.size w w4) := ⟨hp4, Upd.below P3.out.2.drew hu4 (by simp) (by have := lt_of_block P3.out.1; simp; omega)⟩
                clear hp4 hu4 hsl3 P3
                have hsl4 := slice_tail w.heap.size sz (A + 6) (by omega) ((A : Int) + 6) (by omega)
                go_wp2_with (refine wpList_copy_nothing rfl (.tmp 120) (.tmp 121) 36 23 rfl 5 Ybad.underlying36 Ybad.size5 (some ⟨w.heap.size, tailO sz (A + 6), none⟩) none (sz - (A + 6)) (sz - (A + 6)) 0 0 rfl rfl (Nat.zero_min _) ?_)
                go_roundw
                case rel =>
                  have hkl : klF N k = 0 := by rw [HK0.out]; rfl
                  have hkb : kbF kbs k = [] := by rw [HK0.out]; rfl
                  have hX : put32 (put16 (put16 X (4 + 2 * k) A) A 0) (A + 2) (chN len1 zs k) = roundX X n k (klF N) (chN len1 zs) (kbF kbs) := by
                    unfold roundX; rw [← HA.out.1, hkb, hkl, splice_none]
                  refine ⟨k + 1, _, by omega, by go_num, congrArg (Value.int .i64) (by rw [HA.out.2, ← HA.out.1, hkl]; omega), P4.out.2, P4.out.1, ?_⟩
                  rw [hX]
                  exact HB.out.2.step hkn (by rw [HSZ.out]; exact Nat.le_refl _) (by omega) (by rw [hkb, hkl]; rfl) (chN_bd HC.out (by omega))
                case measure => simp [intOf]; omega
              · have hk0' : 0 < k := by omega
                have hkj : k ≤ j := by have := HE.out; omega
                obtain ⟨b, o, rfl, hcs⟩ := HK.out.at' (by have := HE.out; omega)
                have hc0 := hcs (k - 1) (by have := HE.out; omega)
                have hck : ∀ W, Below w.heap.size w W → W.cell? ⟨b, o + (k - 1), none⟩ = some (.slice (P (k - 1)) (N (k - 1)) (C (k - 1))) := fun W hW => by
                  rw [hW.cell (World.block_lt_of_cell? _ _ hc0)]; exact hc0
                have hck' := hck _ hbel
                have hbin := HK.out.els (k - 1) (by have := HE.out; omega)
                have hNk := Hk.out (k - 1) (by have := HE.out; omega)
                have hkF : klF N k = N (k - 1) := by
                  obtain ⟨k', rfl⟩ : ∃ k', k = k' + 1 := ⟨k - 1, by omega⟩
                  rfl
                have hkB : kbF kbs k = kbs (k - 1) := by
                  obtain ⟨k', rfl⟩ : ∃ k', k = k' + 1 := ⟨k - 1, by omega⟩
                  rfl
                rw [hkF] at hA1
                clear hcs hck hc0 hk0
                by_cases hN0 : N (k - 1) = 0
                · have HL : Hid (klF N k = 0 ∧ kbF kbs k = []) := ⟨hkF.trans hN0, by rw [hkB]; exact List.eq_nil_of_length_eq_zero (hbin.len.trans hN0)⟩
                  rw [hN0] at hck'
                  have hk00 : IntKind.u16.wrap (0 : Int) = 0 := u16_in (by omega) (by omega)
                  clear hkF hkB hN0 hbin hNk
                  go_wp2
                  go_region_held3 (fun w' => True) (go_keep) (first | (go_at_call 8; refine (put16_any w.heap.size (4 + 2 * k) (sz - (4 + 2 * k)) (sz - (4 + 2 * k)) A X _ (by exact HB.out.1) (by omega) (by omega) (by omega)).mono ?_; rintro e w2 ⟨rfl, hp2, hu2⟩))
                  have P2 : Hid (w2.heap[w.heap.size]? = some (.cells (bcells (put16 X (4 + 2 * k) A)).toArray 5 (0, 0)) ∧ Below w.heap.size w w2) := ⟨hp2, Upd.below hbel.drew hu2 (by simp) (by have := lt_of_block HB.out.1; simp; omega)⟩
                  clear hp2 hu2 hsl1
                  go_wp2
                  go_region_held3 (fun w' => True) (go_keep) (first | (go_at_call 8; refine (put16_any w.heap.size A (sz - A) (sz - A) (0) (put16 X (4 + 2 * k) A) _ (by exact P2.out.1) (by rw [len_put16]; omega) (by omega) (by omega)).mono ?_; rintro e w3 ⟨rfl, hp3, hu3⟩))
                  have P3 : Hid (w3.heap[w.heap.size]? = some (.cells (bcells (put16 (put16 X (4 + 2 * k) A) A (0))).toArray 5 (0, 0)) ∧ Below w.heap.size w w3) := ⟨hp3, Upd.below P2.out.2.drew hu3 (by simp) (by have := lt_of_block P2.out.1; simp; omega)⟩
                  clear hp3 hu3 hsl2 P2
                  go_wp2
                  go_region_held3 (fun w' => True) (go_keep) (first | (go_at_call 10; refine (bchild_any a1 len1 cap1 k (chN len1 zs k) zs _ rfl (by omega) (chIn_cell HC.out (by exact P3.out.2.drew)) HC.out.mx).mono ?_; rintro e w' ⟨rfl, rfl⟩) | (go_at_call 9; refine (put32_any w.heap.size (A + 2) (sz - (A + 2)) (sz - (A + 2)) (chN len1 zs k) (put16 (put16 X (4 + 2 * k) A) A (0)) _ (by exact P3.out.1) (by rw [len_put16, len_put16]; omega) (by omega) (chN_bd HC.out (by omega))).mono ?_; rintro e w4 ⟨rfl, hp4, hu4⟩))
                  have P4 : Hid (w4.heap[w.heap.size]? = some (.cells (bcells (put32 (put16 (put16 X (4 + 2 * k) A) A (0)) (A + 2) (chN len1 zs k))).toArray 5 (0, 0)) ∧ Below w.heap.size w w4) := ⟨hp4, Upd.below P3.out.2.drew hu4 (by simp) (by have := lt_of_block P3.out.1; simp; omega)⟩
                  clear hp4 hu4 hsl3 P3
                  have hsl4 := slice_tail w.heap.size sz (A + 6) (by omega) ((A : Int) + 6) (by omega)
                  go_wp2_with (refine wpList_copy_nothing rfl (.tmp 120) (.tmp 121) 36 23 rfl 5 Ybad.underlying36 Ybad.size5 (some ⟨w.heap.size, tailO sz (A + 6), none⟩) (P (k - 1)) (sz - (A + 6)) (sz - (A + 6)) 0 (C (k - 1)) rfl rfl (Nat.zero_min _) ?_)
                  go_roundw
                  case rel =>
                    have hkl : klF N k = 0 := HL.out.1
                    have hkb : kbF kbs k = [] := HL.out.2
                    have hX : put32 (put16 (put16 X (4 + 2 * k) A) A 0) (A + 2) (chN len1 zs k) = roundX X n k (klF N) (chN len1 zs) (kbF kbs) := by
                      unfold roundX; rw [← HA.out.1, hkb, hkl, splice_none]
                    refine ⟨k + 1, _, by omega, by go_num, congrArg (Value.int .i64) (by rw [HA.out.2, ← HA.out.1, hkl]; omega), P4.out.2, P4.out.1, ?_⟩
                    rw [hX]
                    exact HB.out.2.step hkn (by rw [HSZ.out]; exact Nat.le_refl _) (by omega) (by rw [hkb, hkl]; rfl) (chN_bd HC.out (by omega))
                  case measure => simp [intOf]; omega
                · obtain ⟨b', o', hP, hcb⟩ := hbin.at' (by omega)
                  obtain ⟨L, hL⟩ : ∃ L, L = N (k - 1) := ⟨_, rfl⟩
                  have hwL : IntKind.u16.wrap (L : Int) = (L : Int) := u16_in (by omega) (by omega)
                  have HL : Hid (klF N k = L ∧ (bcells (kbs (k - 1))).length = L ∧ L = Nat.min L (sz - (A + 6)) ∧ kbF kbs k = kbs (k - 1)) := by
                    refine ⟨by omega, by rw [bcells_len, hbin.len, hL], ?_, hkB⟩
                    show L = min L (sz - (A + 6)); omega
                  have HCB : Hid (∀ t, t < L → w.cell? ⟨b', o' + t, none⟩ = some (.int .u8 ((kbs (k - 1)).getD t 0))) := by rw [hL]; exact hcb
                  rw [hP, ← hL] at hck'
                  have hL0 : 0 < L := by omega
                  have hL1 : L ≤ 150 := by omega
                  have hAL : A + 6 + L ≤ sz := by omega
                  clear hkF hkB hN0 hbin hNk hcb hP hL hA1
                  go_wp2
                  go_region_held3 (fun w' => True) (go_keep) (first | (go_at_call 8; refine (put16_any w.heap.size (4 + 2 * k) (sz - (4 + 2 * k)) (sz - (4 + 2 * k)) A X _ (by exact HB.out.1) (by omega) (by omega) (by omega)).mono ?_; rintro e w2 ⟨rfl, hp2, hu2⟩))
                  have P2 : Hid (w2.heap[w.heap.size]? = some (.cells (bcells (put16 X (4 + 2 * k) A)).toArray 5 (0, 0)) ∧ Below w.heap.size w w2) := ⟨hp2, Upd.below hbel.drew hu2 (by simp) (by have := lt_of_block HB.out.1; simp; omega)⟩
                  clear hp2 hu2 hsl1
                  go_wp2
                  go_region_held3 (fun w' => True) (go_keep) (first | (go_at_call 8; refine (put16_any w.heap.size A (sz - A) (sz - A) (L) (put16 X (4 + 2 * k) A) _ (by exact P2.out.1) (by rw [len_put16]; omega) (by omega) (by omega)).mono ?_; rintro e w3 ⟨rfl, hp3, hu3⟩))
                  have P3 : Hid (w3.heap[w.heap.size]? = some (.cells (bcells (put16 (put16 X (4 + 2 * k) A) A (L))).toArray 5 (0, 0)) ∧ Below w.heap.size w w3) := ⟨hp3, Upd.below P2.out.2.drew hu3 (by simp) (by have := lt_of_block P2.out.1; simp; omega)⟩
                  clear hp3 hu3 hsl2 P2
                  go_wp2
                  go_region_held3 (fun w' => True) (go_keep) (first | (go_at_call 10; refine (bchild_any a1 len1 cap1 k (chN len1 zs k) zs _ rfl (by omega) (chIn_cell HC.out (by exact P3.out.2.drew)) HC.out.mx).mono ?_; rintro e w' ⟨rfl, rfl⟩) | (go_at_call 9; refine (put32_any w.heap.size (A + 2) (sz - (A + 2)) (sz - (A + 2)) (chN len1 zs k) (put16 (put16 X (4 + 2 * k) A) A (L)) _ (by exact P3.out.1) (by rw [len_put16, len_put16]; omega) (by omega) (chN_bd HC.out (by omega))).mono ?_; rintro e w4 ⟨rfl, hp4, hu4⟩))
                  have P4 : Hid (w4.heap[w.heap.size]? = some (.cells (bcells (put32 (put16 (put16 X (4 + 2 * k) A) A (L)) (A + 2) (chN len1 zs k))).toArray 5 (0, 0)) ∧ Below w.heap.size w w4) := ⟨hp4, Upd.below P3.out.2.drew hu4 (by simp) (by have := lt_of_block P3.out.1; simp; omega)⟩
                  clear hp4 hu4 hsl3 P3
                  have hsl4 := slice_from w.heap.size sz (A + 6) (by omega) ((A : Int) + 6) (by omega)
                  go_wp2_with (refine wpList_copy_named rfl (.tmp 120) (.tmp 121) 36 23 rfl 5 Ybad.underlying36 Ybad.size5 w.heap.size (A + 6) (sz - (A + 6)) (sz - (A + 6)) ⟨b', o', none⟩ L (C (k - 1)) rfl rfl (bcells (put32 (put16 (put16 X (4 + 2 * k) A) A L) (A + 2) (chN len1 zs k))) 5 (bcells (kbs (k - 1))) L HL.out.2.1 HL.out.2.2.1 ?_ ?_ ?_ ?_ ?_)
                  · exact P4.out.1
                  · intro t u ht
                    have htl : t < L := by
                      have := (List.getElem?_eq_some_iff.1 ht).1
                      rwa [HL.out.2.1] at this
                    have hlen : (kbs (k - 1)).length = L := by rw [← bcells_len]; exact HL.out.2.1
                    rw [Addr.add_lit, P4.out.2.cell (World.block_lt_of_cell? _ _ (HCB.out t htl)), HCB.out t htl]
                    rw [← ht]
                    simp [bcells, hlen, htl]
                  · rw [HL.out.2.1, bcells_len, len_put32, len_put16, len_put16]; omega
                  · exact bcells_one _
                  · intro w5 hw5
                    go_wp2
                    go_roundw
                    case rel =>
                      have hX : splice (put32 (put16 (put16 X (4 + 2 * k) A) A L) (A + 2) (chN len1 zs k)) (A + 6) (kbs (k - 1)) = roundX X n k (klF N) (chN len1 zs) (kbF kbs) := by
                        unfold roundX; rw [← HA.out.1, HL.out.2.2.2, HL.out.1]
                      have hb5 : Below w.heap.size w w5 := by rw [hw5.out.1]; exact below_setRow P4.out.2 (Nat.le_refl _) _
                      have hh5 := hw5.out.2
                      rw [bcells_splice, hX] at hh5
                      refine ⟨k + 1, _, by omega, by go_num, congrArg (Value.int .i64) (by rw [HA.out.2, ← HA.out.1, HL.out.1]; omega), hb5, hh5, ?_⟩
                      exact HB.out.2.step hkn (by rw [HSZ.out]; exact Nat.le_refl _) (by omega) (by rw [HL.out.2.2.2, HL.out.1, ← bcells_len]; exact HL.out.2.1) (chN_bd HC.out (by omega))
                    case measure => simp [intOf]; omega
            · obtain rfl : n = k := by omega
              obtain ⟨i, hi', hin⟩ : ∃ i, i = s % n ∧ i < n := ⟨_, rfl, Nat.mod_lt _ hnp⟩
              have hwi : wrap64 ((s : Int) % (n : Int)) = (i : Int) := by
                rw [hi', ← Int.natCast_emod]
                exact IntWalk.wrap64_in _ (by rw [← hi']; omega)
              clear hi'
              obtain ⟨lv1, hlv1⟩ : ∃ lv1, lv1 = (lvl - 1) % 4294967296 := ⟨_, rfl⟩
              have hlw : IntKind.u32.wrap (lvl - 1) = lv1 := by rw [hlv1]; exact u32_wrap _
              have HLV : Hid (lv1 = (lvl - 1) % 4294967296) := hlv1
              have hwr := lt_of_block HB.out.1
              have hT := tree_of (a3 := a3) (a4 := a4) (len3 := len3) (cap3 := cap3) (len4 := len4) (cap4 := cap4) (pg := pg) (lvl := lvl) (sz := sz) HB.out.1 (by rw [hbel.cell (World.block_lt_of_cell? _ _ hkk)]; exact hkk)
              have HT : Hid _ := hT
              have hPg := HB.out.2.page (by rw [HSZ.out]; exact Nat.le_refl _) (by omega)
              have HPg : Hid _ := hPg
              clear hlv1 hT hPg hsl hw3 hsz1
              go_wp2_with fail
              simp only [hwi]
              clear hwi
              by_cases hi0 : i = 0 <;> by_cases hi1 : i + 1 < n
              · refine (below_any wr.heap.size w.heap.size i sz n X (ofsN n (klF N)) (klF N) (chN len1 zs) pg lvl a3 a4 len3 cap3 len4 cap4 _ HT.out HPg.out hin (.slice a3 len3 cap3) (keyV w.heap.size (ofsN n (klF N) (i + 1) + 6) (klF N (i + 1))) lv1 HLV.out (by rw [if_pos hi0]) (by rw [if_pos hi1])).mono ?_
                rintro e w5 ⟨rfl, hu5⟩
                obtain ⟨g0, g1, g4, g5, g6, gp, gk⟩ := HT.out.step hu5
                have g2 : w5.cell? ⟨wr.heap.size, 2, none⟩ = some (.int .u32 7) := cell_upd hu5 (by rw [World.cell?_alloc_new]; rfl)
                have g3 : w5.cell? ⟨wr.heap.size, 3, none⟩ = some (.int .i64 3) := cell_upd hu5 (by rw [World.cell?_alloc_new]; rfl)
                have hw5 := World.block_lt_of_cell? _ _ g0
                have hB5 : Below w.heap.size w w5 := Upd.below (hbel.alloc (by omega) _) hu5 (by simp) (by simp; omega)
                have HB5 : Hid (∀ o m, Below w.heap.size w ((w5.alloc o).drewN m)) := fun o m => below_drewN (hB5.alloc (by have := hB5.size; have := hu5.size; simp at this; omega) o) m
                have hq1 : ((chN len1 zs i : Int) != (chN len1 zs i : Int)) = false := by simp
                have hq2 : (lv1 != lv1) = false := by simp
                have hq3 : (pg != pg) = false := by simp
                have hq4 : ((i : Int) != (i : Int)) = false := by simp
                have HI0 : Hid (i = 0) := hi0
                have hi0b : ((i : Int) == 0) = true := by simp [hi0]
                obtain ⟨b, o, rfl, hcs2⟩ := HK.out.at' (by have := HE.out; omega)
                have hij1 : (i : Int) < (j : Int) := by have := HE.out; omega
                have hc2 := hcs2 i (by have := HE.out; omega)
                have hbb2 := World.block_lt_of_cell? _ _ hc2
                have hbb6 : b < w5.heap.size := Nat.lt_of_lt_of_le hbb2 hB5.size
                have kc2 : w5.cell? ⟨b, o + i, none⟩ = some (.slice (P i) (N i) (C i)) := by rw [hB5.cell hbb2]; exact hc2
                have hn2 : ∀ W : World, (binOp .eql 23 (keyV w.heap.size (ofsN n (klF N) (i + 1) + 6) (klF N (i + 1))) (.slice none 0 0)).run Ybad.prog W = .ok (.bool false) W := fun W => eql_slice_nil 23 5 _ _ _ Ybad.underlying23 W
                have HE2 : Hid (∀ o' m', Calls Ybad.prog 13 #[keyV w.heap.size (ofsN n (klF N) (i + 1) + 6) (klF N (i + 1)), .slice (P i) (N i) (C i)] ((w5.alloc o').drewN m') fun e w' => e = .returned (.bool true) ∧ w' = (w5.alloc o').drewN m') := fun o' m' => by
                  have b1 := key_bin (W := (w5.alloc o').drewN m') (allocB o' gp) HB.out.2 HSZ.out hi1 (kbF_len HK.out (show i + 1 ≤ j by have := HE.out; omega))
                  exact equal_same _ _ _ _ _ _ _ _ b1 (bin_in (HK.out.els i (by have := HE.out; omega)) (HB5.out o' m'))
                have hb7 : wr.heap.size < w5.heap.size := hw5
                have HS3 : Hid (∀ o' m', Calls Ybad.prog 12 #[.slice a3 len3 cap3, .slice a3 len3 cap3] ((w5.alloc o').drewN m') fun e w' => e = .returned (.bool true) ∧ w' = (w5.alloc o').drewN m') := fun o' m' => same_self _ _ _ _ _ (bin_in H3.out (HB5.out o' m'))
                have HS4 : Hid (∀ o' m', Calls Ybad.prog 12 #[.slice a4 len4 cap4, .slice a4 len4 cap4] ((w5.alloc o').drewN m') fun e w' => e = .returned (.bool true) ∧ w' = (w5.alloc o').drewN m') := fun o' m' => same_self _ _ _ _ _ (bin_in H4.out (HB5.out o' m'))
                clear hu5 gp gk hB5 hcs2 hc2 hi0
                go_wp2
                go_quiet ((go_at_call 10; exact Calls.quiet_of_same (bchild_any a1 len1 cap1 i (chN len1 zs i) zs _ rfl (by omega) (chIn_cell HC.out (HB5.out _ _)) HC.out.mx)))
                go_wp2_with fail
                refine (HS3.out _ _).mono ?_
                rintro e wa ⟨rfl, rfl⟩
                go_wp2
                go_quiet ((go_at_call 13; exact (HE2.out _ _).mono fun _ _ h => ⟨h.1, _, h.2⟩))
                go_wp2_with fail
                refine (HS3.out _ _).mono ?_
                rintro e w6 ⟨rfl, rfl⟩
                go_wp2_with fail
                refine (HS4.out _ _).mono ?_
                rintro e w7 ⟨rfl, rfl⟩
                go_wp2
                go_ret
                exact ⟨rfl, HB5.out _ _⟩
              · refine (below_any wr.heap.size w.heap.size i sz n X (ofsN n (klF N)) (klF N) (chN len1 zs) pg lvl a3 a4 len3 cap3 len4 cap4 _ HT.out HPg.out hin (.slice a3 len3 cap3) (.slice a4 len4 cap4) lv1 HLV.out (by rw [if_pos hi0]) (by rw [if_neg hi1])).mono ?_
                rintro e w5 ⟨rfl, hu5⟩
                obtain ⟨g0, g1, g4, g5, g6, gp, gk⟩ := HT.out.step hu5
                have g2 : w5.cell? ⟨wr.heap.size, 2, none⟩ = some (.int .u32 7) := cell_upd hu5 (by rw [World.cell?_alloc_new]; rfl)
                have g3 : w5.cell? ⟨wr.heap.size, 3, none⟩ = some (.int .i64 3) := cell_upd hu5 (by rw [World.cell?_alloc_new]; rfl)
                have hw5 := World.block_lt_of_cell? _ _ g0
                have hB5 : Below w.heap.size w w5 := Upd.below (hbel.alloc (by omega) _) hu5 (by simp) (by simp; omega)
                have HB5 : Hid (∀ o m, Below w.heap.size w ((w5.alloc o).drewN m)) := fun o m => below_drewN (hB5.alloc (by have := hB5.size; have := hu5.size; simp at this; omega) o) m
                have hq1 : ((chN len1 zs i : Int) != (chN len1 zs i : Int)) = false := by simp
                have hq2 : (lv1 != lv1) = false := by simp
                have hq3 : (pg != pg) = false := by simp
                have hq4 : ((i : Int) != (i : Int)) = false := by simp
                have HI0 : Hid (i = 0) := hi0
                have hi0b : ((i : Int) == 0) = true := by simp [hi0]
                have hb7 : wr.heap.size < w5.heap.size := hw5
                have HS3 : Hid (∀ o' m', Calls Ybad.prog 12 #[.slice a3 len3 cap3, .slice a3 len3 cap3] ((w5.alloc o').drewN m') fun e w' => e = .returned (.bool true) ∧ w' = (w5.alloc o').drewN m') := fun o' m' => same_self _ _ _ _ _ (bin_in H3.out (HB5.out o' m'))
                have HS4 : Hid (∀ o' m', Calls Ybad.prog 12 #[.slice a4 len4 cap4, .slice a4 len4 cap4] ((w5.alloc o').drewN m') fun e w' => e = .returned (.bool true) ∧ w' = (w5.alloc o').drewN m') := fun o' m' => same_self _ _ _ _ _ (bin_in H4.out (HB5.out o' m'))
                clear hu5 gp gk hB5 hi0
                go_wp2
                go_quiet ((go_at_call 10; exact Calls.quiet_of_same (bchild_any a1 len1 cap1 i (chN len1 zs i) zs _ rfl (by omega) (chIn_cell HC.out (HB5.out _ _)) HC.out.mx)))
                go_wp2_with fail
                refine (HS3.out _ _).mono ?_
                rintro e wa ⟨rfl, rfl⟩
                go_wp2_with fail
                refine (HS4.out _ _).mono ?_
                rintro e wb ⟨rfl, rfl⟩
                go_wp2_with fail
                refine (HS3.out _ _).mono ?_
                rintro e w6 ⟨rfl, rfl⟩
                go_wp2_with fail
                refine (HS4.out _ _).mono ?_
                rintro e w7 ⟨rfl, rfl⟩
                go_wp2
                go_ret
                exact ⟨rfl, HB5.out _ _⟩
              · refine (below_any wr.heap.size w.heap.size i sz n X (ofsN n (klF N)) (klF N) (chN len1 zs) pg lvl a3 a4 len3 cap3 len4 cap4 _ HT.out HPg.out hin (keyV w.heap.size (ofsN n (klF N) i + 6) (klF N i)) (keyV w.heap.size (ofsN n (klF N) (i + 1) + 6) (klF N (i + 1))) lv1 HLV.out (by rw [if_neg hi0]) (by rw [if_pos hi1])).mono ?_
                rintro e w5 ⟨rfl, hu5⟩
                obtain ⟨g0, g1, g4, g5, g6, gp, gk⟩ := HT.out.step hu5
                have g2 : w5.cell? ⟨wr.heap.size, 2, none⟩ = some (.int .u32 7) := cell_upd hu5 (by rw [World.cell?_alloc_new]; rfl)
                have g3 : w5.cell? ⟨wr.heap.size, 3, none⟩ = some (.int .i64 3) := cell_upd hu5 (by rw [World.cell?_alloc_new]; rfl)
                have hw5 := World.block_lt_of_cell? _ _ g0
                have hB5 : Below w.heap.size w w5 := Upd.below (hbel.alloc (by omega) _) hu5 (by simp) (by simp; omega)
                have HB5 : Hid (∀ o m, Below w.heap.size w ((w5.alloc o).drewN m)) := fun o m => below_drewN (hB5.alloc (by have := hB5.size; have := hu5.size; simp at this; omega) o) m
                have hq1 : ((chN len1 zs i : Int) != (chN len1 zs i : Int)) = false := by simp
                have hq2 : (lv1 != lv1) = false := by simp
                have hq3 : (pg != pg) = false := by simp
                have hq4 : ((i : Int) != (i : Int)) = false := by simp
                obtain ⟨b, o, rfl, hcs⟩ := HK.out.at' (by have := HE.out; omega)
                have hij : i ≤ j := by have := HE.out; omega
                have hi01 : (1 : Int) ≤ (i : Int) := by omega
                have hia : (0 : Int) ≤ (i : Int) - 1 := by omega
                have hib : (i : Int) - 1 < (j : Int) := by omega
                have hit : ((i : Int) - 1).toNat = i - 1 := by omega
                have hc1 := hcs (i - 1) (by omega)
                have hbb := World.block_lt_of_cell? _ _ hc1
                have hbb5 : b < w5.heap.size := Nat.lt_of_lt_of_le hbb hB5.size
                have kc1 : w5.cell? ⟨b, o + (i - 1), none⟩ = some (.slice (P (i - 1)) (N (i - 1)) (C (i - 1))) := by rw [hB5.cell hbb]; exact hc1
                have hw1 : IntKind.i64.wrap ((i : Int) - 1) = (i : Int) - 1 := i64_in (by omega)
                have hn1 : ∀ W : World, (binOp .eql 23 (keyV w.heap.size (ofsN n (klF N) i + 6) (klF N i)) (.slice none 0 0)).run Ybad.prog W = .ok (.bool false) W := fun W => eql_slice_nil 23 5 _ _ _ Ybad.underlying23 W
                have HE1 : Hid (∀ o' m', Calls Ybad.prog 13 #[keyV w.heap.size (ofsN n (klF N) i + 6) (klF N i), .slice (P (i - 1)) (N (i - 1)) (C (i - 1))] ((w5.alloc o').drewN m') fun e w' => e = .returned (.bool true) ∧ w' = (w5.alloc o').drewN m') := fun o' m' => by
                  have hkb : kbF kbs i = kbs (i - 1) := by
                    obtain ⟨i', rfl⟩ : ∃ i', i = i' + 1 := ⟨i - 1, by omega⟩
                    rfl
                  have b1 := key_bin (W := (w5.alloc o').drewN m') (allocB o' gp) HB.out.2 HSZ.out hin (kbF_len HK.out hij)
                  rw [hkb] at b1
                  exact equal_same _ _ _ _ _ _ _ _ b1 (bin_in (HK.out.els (i - 1) (by omega)) (HB5.out o' m'))
                have hcs2 := hcs
                have hij1 : (i : Int) < (j : Int) := by have := HE.out; omega
                have hc2 := hcs2 i (by have := HE.out; omega)
                have hbb2 := World.block_lt_of_cell? _ _ hc2
                have hbb6 : b < w5.heap.size := Nat.lt_of_lt_of_le hbb2 hB5.size
                have kc2 : w5.cell? ⟨b, o + i, none⟩ = some (.slice (P i) (N i) (C i)) := by rw [hB5.cell hbb2]; exact hc2
                have hn2 : ∀ W : World, (binOp .eql 23 (keyV w.heap.size (ofsN n (klF N) (i + 1) + 6) (klF N (i + 1))) (.slice none 0 0)).run Ybad.prog W = .ok (.bool false) W := fun W => eql_slice_nil 23 5 _ _ _ Ybad.underlying23 W
                have HE2 : Hid (∀ o' m', Calls Ybad.prog 13 #[keyV w.heap.size (ofsN n (klF N) (i + 1) + 6) (klF N (i + 1)), .slice (P i) (N i) (C i)] ((w5.alloc o').drewN m') fun e w' => e = .returned (.bool true) ∧ w' = (w5.alloc o').drewN m') := fun o' m' => by
                  have b1 := key_bin (W := (w5.alloc o').drewN m') (allocB o' gp) HB.out.2 HSZ.out hi1 (kbF_len HK.out (show i + 1 ≤ j by have := HE.out; omega))
                  exact equal_same _ _ _ _ _ _ _ _ b1 (bin_in (HK.out.els i (by have := HE.out; omega)) (HB5.out o' m'))
                have hb7 : wr.heap.size < w5.heap.size := hw5
                have HS3 : Hid (∀ o' m', Calls Ybad.prog 12 #[.slice a3 len3 cap3, .slice a3 len3 cap3] ((w5.alloc o').drewN m') fun e w' => e = .returned (.bool true) ∧ w' = (w5.alloc o').drewN m') := fun o' m' => same_self _ _ _ _ _ (bin_in H3.out (HB5.out o' m'))
                have HS4 : Hid (∀ o' m', Calls Ybad.prog 12 #[.slice a4 len4 cap4, .slice a4 len4 cap4] ((w5.alloc o').drewN m') fun e w' => e = .returned (.bool true) ∧ w' = (w5.alloc o').drewN m') := fun o' m' => same_self _ _ _ _ _ (bin_in H4.out (HB5.out o' m'))
                clear hu5 gp gk hB5 hcs hc1 hcs2 hc2
                go_wp2
                go_quiet ((go_at_call 10; exact Calls.quiet_of_same (bchild_any a1 len1 cap1 i (chN len1 zs i) zs _ rfl (by omega) (chIn_cell HC.out (HB5.out _ _)) HC.out.mx)))
                go_wp2
                go_quiet ((go_at_call 13; exact (HE1.out _ _).mono fun _ _ h => ⟨h.1, _, h.2⟩))
                go_wp2
                go_quiet ((go_at_call 13; exact (HE2.out _ _).mono fun _ _ h => ⟨h.1, _, h.2⟩))
                go_wp2_with fail
                refine (HS3.out _ _).mono ?_
                rintro e w6 ⟨rfl, rfl⟩
                go_wp2_with fail
                refine (HS4.out _ _).mono ?_
                rintro e w7 ⟨rfl, rfl⟩
                go_wp2
                go_ret
                exact ⟨rfl, HB5.out _ _⟩
              · refine (below_any wr.heap.size w.heap.size i sz n X (ofsN n (klF N)) (klF N) (chN len1 zs) pg lvl a3 a4 len3 cap3 len4 cap4 _ HT.out HPg.out hin (keyV w.heap.size (ofsN n (klF N) i + 6) (klF N i)) (.slice a4 len4 cap4) lv1 HLV.out (by rw [if_neg hi0]) (by rw [if_neg hi1])).mono ?_
                rintro e w5 ⟨rfl, hu5⟩
                obtain ⟨g0, g1, g4, g5, g6, gp, gk⟩ := HT.out.step hu5
                have g2 : w5.cell? ⟨wr.heap.size, 2, none⟩ = some (.int .u32 7) := cell_upd hu5 (by rw [World.cell?_alloc_new]; rfl)
                have g3 : w5.cell? ⟨wr.heap.size, 3, none⟩ = some (.int .i64 3) := cell_upd hu5 (by rw [World.cell?_alloc_new]; rfl)
                have hw5 := World.block_lt_of_cell? _ _ g0
                have hB5 : Below w.heap.size w w5 := Upd.below (hbel.alloc (by omega) _) hu5 (by simp) (by simp; omega)
                have HB5 : Hid (∀ o m, Below w.heap.size w ((w5.alloc o).drewN m)) := fun o m => below_drewN (hB5.alloc (by have := hB5.size; have := hu5.size; simp at this; omega) o) m
                have hq1 : ((chN len1 zs i : Int) != (chN len1 zs i : Int)) = false := by simp
                have hq2 : (lv1 != lv1) = false := by simp
                have hq3 : (pg != pg) = false := by simp
                have hq4 : ((i : Int) != (i : Int)) = false := by simp
                obtain ⟨b, o, rfl, hcs⟩ := HK.out.at' (by have := HE.out; omega)
                have hij : i ≤ j := by have := HE.out; omega
                have hi01 : (1 : Int) ≤ (i : Int) := by omega
                have hia : (0 : Int) ≤ (i : Int) - 1 := by omega
                have hib : (i : Int) - 1 < (j : Int) := by omega
                have hit : ((i : Int) - 1).toNat = i - 1 := by omega
                have hc1 := hcs (i - 1) (by omega)
                have hbb := World.block_lt_of_cell? _ _ hc1
                have hbb5 : b < w5.heap.size := Nat.lt_of_lt_of_le hbb hB5.size
                have kc1 : w5.cell? ⟨b, o + (i - 1), none⟩ = some (.slice (P (i - 1)) (N (i - 1)) (C (i - 1))) := by rw [hB5.cell hbb]; exact hc1
                have hw1 : IntKind.i64.wrap ((i : Int) - 1) = (i : Int) - 1 := i64_in (by omega)
                have hn1 : ∀ W : World, (binOp .eql 23 (keyV w.heap.size (ofsN n (klF N) i + 6) (klF N i)) (.slice none 0 0)).run Ybad.prog W = .ok (.bool false) W := fun W => eql_slice_nil 23 5 _ _ _ Ybad.underlying23 W
                have HE1 : Hid (∀ o' m', Calls Ybad.prog 13 #[keyV w.heap.size (ofsN n (klF N) i + 6) (klF N i), .slice (P (i - 1)) (N (i - 1)) (C (i - 1))] ((w5.alloc o').drewN m') fun e w' => e = .returned (.bool true) ∧ w' = (w5.alloc o').drewN m') := fun o' m' => by
                  have hkb : kbF kbs i = kbs (i - 1) := by
                    obtain ⟨i', rfl⟩ : ∃ i', i = i' + 1 := ⟨i - 1, by omega⟩
                    rfl
                  have b1 := key_bin (W := (w5.alloc o').drewN m') (allocB o' gp) HB.out.2 HSZ.out hin (kbF_len HK.out hij)
                  rw [hkb] at b1
                  exact equal_same _ _ _ _ _ _ _ _ b1 (bin_in (HK.out.els (i - 1) (by omega)) (HB5.out o' m'))
                have hb7 : wr.heap.size < w5.heap.size := hw5
                have HS3 : Hid (∀ o' m', Calls Ybad.prog 12 #[.slice a3 len3 cap3, .slice a3 len3 cap3] ((w5.alloc o').drewN m') fun e w' => e = .returned (.bool true) ∧ w' = (w5.alloc o').drewN m') := fun o' m' => same_self _ _ _ _ _ (bin_in H3.out (HB5.out o' m'))
                have HS4 : Hid (∀ o' m', Calls Ybad.prog 12 #[.slice a4 len4 cap4, .slice a4 len4 cap4] ((w5.alloc o').drewN m') fun e w' => e = .returned (.bool true) ∧ w' = (w5.alloc o').drewN m') := fun o' m' => same_self _ _ _ _ _ (bin_in H4.out (HB5.out o' m'))
                clear hu5 gp gk hB5 hcs hc1
                go_wp2
                go_quiet ((go_at_call 10; exact Calls.quiet_of_same (bchild_any a1 len1 cap1 i (chN len1 zs i) zs _ rfl (by omega) (chIn_cell HC.out (HB5.out _ _)) HC.out.mx)))
                go_wp2
                go_quiet ((go_at_call 13; exact (HE1.out _ _).mono fun _ _ h => ⟨h.1, _, h.2⟩))
                go_wp2_with fail
                refine (HS4.out _ _).mono ?_
                rintro e wb ⟨rfl, rfl⟩
                go_wp2_with fail
                refine (HS3.out _ _).mono ?_
                rintro e w6 ⟨rfl, rfl⟩
                go_wp2_with fail
                refine (HS4.out _ _).mono ?_
                rintro e w7 ⟨rfl, rfl⟩
                go_wp2
                go_ret
                exact ⟨rfl, HB5.out _ _⟩
end Go.Proofs.YbulkczrmDoor
