import Derived.Test.YbulkczrmFmtDup
namespace Go.Proofs.YbulkczrmFmt
open Go.RowKit Go.Extern.Stop Go.Stop Go.Extern
set_option linter.unusedVariables false
set_option linter.unusedSimpArgs false

theorem asc_long (a0 : Option Addr) (len0 cap0 : Nat) (v1 : Value) (w : World) (h : 1024 < len0) :
    Calls Ybaf.prog 4 #[.slice a0 len0 cap0, v1] w fun e w' => e = .returned (.bool true) ∧ Below w.heap.size w w' := by
  go_enter Ybaf.func4, Ybaf.ntmps4
  go_wp2
  go_ret
  exact ⟨rfl, Below.refl _ _⟩

theorem src1 {W : World} {v : Value} {c : Nat} (hv : v.oneCell' = true) : Src Ybaf.prog 1 22 (.slice (some ⟨W.heap.size, 0, none⟩) 1 c) 1 [v] (W.alloc (.cells #[v] 23)) :=
  Src.ofSlice _ Ybaf.underlying22 _ 1 c [v] rfl (fun j u hj => by
    cases j with
    | zero =>
      simp only [List.getElem?_cons_zero, Option.some.injEq] at hj
      subst hj
      rw [Addr.add_lit, World.cell?_alloc_new]; rfl
    | succ j => simp at hj) (fun u hu => by obtain rfl := List.mem_singleton.1 hu; exact hv)
theorem room1 {w W : World} {c m : Nat} {ks : List Key} {o : Obj} {v : Value} (h : Row w W c ks) (hm : m < c) : (∀ j, j < [v].length → ((W.alloc o).cell? ⟨w.heap.size, 0 + m + j, none⟩).isSome = true) ∧ ∀ j, j < [v].length → (W.alloc o).frozen? ⟨w.heap.size, 0 + m + j, none⟩ = false := by
  refine ⟨fun j hj => ?_, fun j hj => ?_⟩ <;> simp only [List.length_cons, List.length_nil, Nat.zero_add, Nat.lt_one_iff] at hj <;> subst hj <;> rw [Nat.add_zero, Nat.zero_add]
  · rw [World.cell?_alloc_past _ _ _ h.lt]; exact (h.there m hm).1
  · rw [World.frozen?_alloc_past _ _ _ h.lt]; exact (h.there m hm).2

theorem dupBelow (W : World) (v : Value) : Below W.heap.size W (W.alloc (.cells #[v] 23)).drew := ((Below.refl _ W).alloc (Nat.le_refl _) _).drew
theorem dupNew (W : World) (v : Value) : (W.alloc (.cells #[v] 23)).drew.cell? ⟨W.heap.size, 0, none⟩ = some v := by
  show (W.alloc (.cells #[v] 23)).cell? ⟨W.heap.size, 0, none⟩ = _
  rw [World.cell?_alloc_new]; rfl
theorem dupSize (W : World) (v : Value) : (W.alloc (.cells #[v] 23)).drew.heap.size = W.heap.size + 1 := by simp

theorem dupKeep {W W9 : World} {v u : Value} {a : Addr} {A B : List Value → Prop} (h : Hid (∃ cs : List Value, A cs ∧ B cs ∧ Below (W.alloc (.cells #[v] 23)).drew.heap.size (W.alloc (.cells #[v] 23)).drew W9)) (hc : W.cell? a = some u) : W9.cell? a = some u := by
  obtain ⟨cs, _, _, hb⟩ := h.out
  exact cell_in hb (cell_in (dupBelow W v) hc)

theorem dup_fin {F : Interp} {w w8 w9 : World} {pre out : List Key} {l j q ln lc : Nat} {lp : Option Addr}
    (HN : Hid (∃ cs : List Value, w9.heap[w8.heap.size + 1]? = some (.cells cs.toArray 23 (0, 0)) ∧ cs.take (j + 1) = (pre ++ out).map encK ++ [.slice lp ln lc] ∧ Below (w8.alloc (.cells #[.slice lp ln lc] 23)).drew.heap.size (w8.alloc (.cells #[.slice lp ln lc] 23)).drew w9))
    (h8 : Row2 w w8 pre out) (h9 : out.length = l ∧ sumK (pre ++ out) ≤ 40000 ∧ (pre ++ out).length = j) (hv : encK (out.getD q noKey) = .slice lp ln lc) (hq : q = l - 1) (h0 : 0 < l) (hn : j + 1 ≤ 1026) (hK : Kinds w) (hF : F.answers w.tape) :
    Rdy F w w9 (w8.heap.size + 1) (pre ++ out ++ [out.getD (l - 1) noKey]) (j + 1) := by
  obtain ⟨cs, h1, h2, h3⟩ := HN.out
  refine dup_rdy h8 h9.2.1 h9.1 h0 (by rw [h9.2.2]) hn hK hF ((dupBelow w8 _).trans (h3.mono (by simp))) (by omega) h1 ?_
  rw [h2, ← hq, ← hv]
  simp only [List.map_append, List.map_cons, List.map_nil]

theorem app_src {w W : World} {pre out : List Key} {l : Nat} (h : Row2 w W pre out) (hp : pre.length = 1) (hl : out.length = l) (c : Nat) :
    Src Ybaf.prog 1 22 (.slice (some ⟨w.heap.size, 1, none⟩) l c) l (out.map encK) W ∧ (∀ j, j < (out.map encK).length → (W.cell? ⟨w.heap.size, 0 + 1 + j, none⟩).isSome = true) ∧ ∀ j, j < (out.map encK).length → W.frozen? ⟨w.heap.size, 0 + 1 + j, none⟩ = false := by
  have hb := h.body
  rw [hp] at hb
  refine ⟨Src.ofSlice _ Ybaf.underlying22 _ l c _ (by simp [hl]) (fun j u hj => ?_) (encK_one out), fun j hj => ?_, fun j hj => ?_⟩
  · have hjl : j < out.length := by
      have := (List.getElem?_eq_some_iff.1 hj).1
      simpa using this
    rw [Addr.add_lit, (hb j hjl).1, ← hj]
    simp [hjl]
  · rw [Nat.zero_add, (hb j (by simpa using hj)).1]; rfl
  · rw [Nat.zero_add]; exact (hb j (by simpa using hj)).2

set_option maxRecDepth 20000 in
set_option maxHeartbeats 4000000 in
theorem asc_law_0 (F : Interp) (a0 : Option Addr) (len0 cap0 : Nat) (P : Nat → Option Addr) (N C : Nat → Nat) (kbs : Nat → List Int) (w : World) (h : In F w a0 len0 P N C kbs) (hl : len0 ≤ 1024) :
    Calls Ybaf.prog 4 #[.slice a0 len0 cap0, .bool false] w fun e w' => e = .returned (.bool true) ∧ Below w.heap.size w w' := by
  have HI : Hid (In F w a0 len0 P N C kbs) := h
  obtain ⟨pre, hpre⟩ : ∃ pre : List Key, pre = ([] : List Key) := ⟨_, rfl⟩
  have HP : Hid (pre.length = 0 ∧ pre = ([] : List Key)) := ⟨by rw [hpre]; rfl, hpre⟩
  clear h hpre
  obtain ⟨c, hc⟩ : ∃ c, c = len0 + 2 := ⟨_, rfl⟩
  have hwc : IntKind.i64.wrap ((len0 : Int) + 2) = (c : Int) := by rw [i64_in (by omega), hc]; omega
  have HC : Hid (c = len0 + 2) := hc
  have hc1 : 2 ≤ c := by omega
  have hc2 : c ≤ 1026 := by omega
  clear hc
  obtain ⟨i0, hi, hz0, hz1, hz2⟩ := info_parts Ybaf.info23
  go_enter Ybaf.func4, Ybaf.ntmps4
  go_wp2_with (first | (at_make; refine wpList_make_own _ rfl _ _ 22 rfl w.heap.size 23 i0 (.slice none 0 0) 1 Ybaf.underlying22 hi hz0 hz1 _ _ _ c rfl rfl rfl (by rw [hz2]; omega) (by unfold maxLen; omega) (Nat.le_refl _) ?_))
  intro w1 hown hg
  have R1 : Hid (Row w w1 c []) := Row.made hown hg
  clear hown hg hz0 hz1 hz2 hi i0
  have R2 : Hid (Row w w1 c pre) := by rw [HP.out.2]; exact R1.out
  clear R1
  go_wp2
  go_loopw [5, 6] (fun s i wr => ∃ m k : Nat, k ≤ len0 ∧ i = .int .i64 k ∧ s = .slice (some ⟨w.heap.size, 0, none⟩) m c ∧ m ≤ k + 0 ∧ 0 ≤ m ∧ Hid (∃ ks : List Key, (pre ++ ks).length = m ∧ Row w wr c (pre ++ ks) ∧ ∀ x ∈ ks, 1 ≤ x.N)) (fun _ i _ => len0 - (intOf i).toNat)
  case atStart => exact ⟨0, 0, Nat.zero_le _, rfl, rfl, by omega, by omega, [], by rw [List.append_nil]; exact HP.out.1, by rw [List.append_nil]; exact R2.out, fun x hx => (by cases hx)⟩
  case round =>
    obtain ⟨m, k, hk, rfl, rfl, hmk, hfm, HK⟩ := hrel
    by_cases hlt : k < len0
    · obtain ⟨b, o, rfl, hcc⟩ := HI.out.keys.at' (by omega)
      have HW : Hid (∃ ks : List Key, (pre ++ ks).length = m ∧ Row w wr c (pre ++ ks) ∧ ∀ x ∈ ks, 1 ≤ x.N) := HK.out
      have hck : wr.cell? ⟨b, o + k, none⟩ = some (.slice (P k) (N k) (C k)) := by
        obtain ⟨ks, _, hr, _⟩ := HK.out
        exact cell_in hr.bel (hcc k hlt)
      have hNk := HI.out.mx k hlt
      clear hcc
      by_cases h1 : N k < 1
      · go_wp2
        go_roundw
        case rel => exact ⟨m, k + 1, hlt, by go_num, rfl, by omega, hfm, HW.out⟩
        case measure => simp [intOf]; omega
      · by_cases h2 : 1000 < N k
        · go_wp2
          go_roundw
          case rel => exact ⟨m, k + 1, hlt, by go_num, rfl, by omega, hfm, HW.out⟩
          case measure => simp [intOf]; omega
        · have hmc : m < c := by rw [HC.out]; omega
          obtain ⟨ks, hks, hr, hpos⟩ := HK.out
          have HR : Hid (Row w wr c (pre ++ ks)) := hr
          have HN : Hid ((pre ++ ks).length = m ∧ (∀ x ∈ ks, 1 ≤ x.N) ∧ Old w ⟨P k, N k, C k, kbs k⟩ ∧ 1 ≤ N k) := ⟨hks, hpos, ⟨HI.out.keys.els k hlt, by show N k ≤ 1000; omega, HI.out.bytes k hlt⟩, by omega⟩
          clear hks hr hpos HK HW
          go_wp2_with (first | (at_builtin; refine wpList_append_room1 _ rfl (.tmp 42) (.tmp 47) 22 22 rfl 23 (.slice none 0 0) 24 Ybaf.underlying22 Ybaf.info23 w.heap.size 0 m c rfl _ rfl 1 [.slice (P k) (N k) (C k)] (src1 rfl) (by omega) (room1 HR.out hmc).1 (room1 HR.out hmc).2 ?_))
          go_wp2
          go_roundw
          case rel =>
            refine ⟨m + 1, k + 1, hlt, by go_num, rfl, by omega, by omega, ks ++ [⟨P k, N k, C k, kbs k⟩], by rw [← List.append_assoc, List.length_append, HN.out.1]; rfl, ?_, ?_⟩
            · rw [← List.append_assoc]
              exact HR.out.push (k := ⟨P k, N k, C k, kbs k⟩) (by rw [HN.out.1]; exact hmc) HN.out.2.2.1 (o := .cells #[.slice (P k) (N k) (C k)] 23) (by rw [HN.out.1, Nat.zero_add]; rfl)
            · intro x hx
              rcases List.mem_append.1 hx with hx | hx
              · exact HN.out.2.1 x hx
              · obtain rfl := List.mem_singleton.1 hx
                exact HN.out.2.2.2
          case measure => simp [intOf]; omega
    · obtain rfl : k = len0 := by omega
      have H2 : Hid (∃ body, Row2 w wr pre body ∧ (pre ++ body).length = m) := by
        obtain ⟨ks, h1, h2, h3⟩ := HK.out
        exact ⟨ks, ⟨h2.row, h2.old, h3, h2.bel, h2.lt⟩, h1⟩
      clear HK R2
      obtain ⟨body, hbody⟩ := H2.out
      have H3 : Hid (Row2 w wr pre body ∧ (pre ++ body).length = m) := hbody
      clear hbody H2
      have HB : Hid (body.length = m ∧ m ≤ 1024 ∧ m ≤ c) := ⟨by have := H3.out.2; rw [List.length_append, HP.out.1] at this; omega, by omega, by rw [HC.out]; omega⟩
      have hmb : m ≤ 1024 := HB.out.2.1
      go_wp2_with fail
      refine (sort_row c H3.out.1 HP.out.1 HB.out.1 (by omega)).mono ?_
      rintro e w3 ⟨rfl, bs, H4⟩
      go_wp2_with fail
      refine (compact_row c H4.out HP.out.1 (by omega) HB.out.2.2).mono ?_
      rintro e w5 ⟨out, l, rfl, hlm, H5⟩
      clear H4 H3
      have H6 : Hid (Row2 w w5 pre out ∧ Asc out ∧ out.length = l ∧ (pre ++ out).length = l) := ⟨H5.out.1, H5.out.2.1, H5.out.2.2, by rw [List.length_append, HP.out.1, H5.out.2.2]; omega⟩
      clear H5
      have hl1 : l ≤ 1024 := by omega
      have HL : Hid (l = 0 + l ∧ l ≤ c) := ⟨by omega, by have := HB.out; omega⟩
      clear hlm hmb hfm hmk HB
      go_wp2
      clear hlt hk
      obtain ⟨ks, hks⟩ : ∃ ks, ks = pre ++ out := ⟨_, rfl⟩
      have H7 : Hid (RowK w5 w.heap.size 0 ks ∧ (∀ x ∈ ks, Old w x) ∧ ks.length = l ∧ ks = pre ++ out) := by
        rw [hks]; exact ⟨H6.out.1.row, H6.out.1.old, H6.out.2.2.2, rfl⟩
      clear hks
      go_loop [8, 9] (fun s i => ∃ j : Nat, j ≤ l ∧ i = .int .i64 j ∧ s = .int .i64 (sumN (nOf ks) j : Nat) ∧ sumN (nOf ks) j ≤ 1000 * j) (fun _ i => l - (intOf i).toNat)
      case atStart => exact ⟨0, Nat.zero_le _, rfl, rfl, Nat.le_refl _⟩
      case round =>
        obtain ⟨j, hj, rfl, rfl, hsum⟩ := hrel
        by_cases hjl : j < l
        · have hcj : w5.cell? ⟨w.heap.size, j, none⟩ = some (.slice (ks.getD j noKey).P (nOf ks j) (ks.getD j noKey).C) := by
            have := (H7.out.1 j (by rw [H7.out.2.2.1]; exact hjl)).1
            rw [Nat.zero_add] at this
            exact this
          have hNj : nOf ks j ≤ 1000 := (H7.out.2.1 _ (getD_mem (by rw [H7.out.2.2.1]; exact hjl))).mx
          have HS : Hid (sumN (nOf ks) (j + 1) = sumN (nOf ks) j + nOf ks j) := rfl
          generalize nOf ks j = Nj at *
          generalize sumN (nOf ks) j = Sj at *
          go_wp2
          go_round
          case rel => exact ⟨j + 1, hjl, by go_num, congrArg (Value.int .i64) (by rw [HS.out]; omega), by rw [HS.out]; omega⟩
          case measure => simp [intOf]; omega
        · obtain rfl : j = l := by omega
          by_cases h4 : 40000 < sumN (nOf ks) j
          · go_wp2
            go_ret
            exact ⟨rfl, H6.out.1.bel⟩
          · have H4 : Hid (sumK ks ≤ 40000) := by
              show sumK ks ≤ 40000
              rw [← nOf_sum ks, H7.out.2.2.1]; omega
            have HD : Hid (Rdy F w w5 w.heap.size ks j) := by
              rw [H7.out.2.2.2]
              exact H6.out.1.rdy (by rw [← H7.out.2.2.2]; have := H4.out; omega) (by rw [← H7.out.2.2.2]; exact H7.out.2.2.1) (by omega) HI.out.kinds HI.out.ans
            have HO : Hid (okB (xsOf ks) 0 j = true) := by
              rw [H7.out.2.2.2]
              exact asc_ok H6.out.1 H6.out.2.1 HP.out.1 (by rw [← H7.out.2.2.2]; exact H7.out.2.2.1)
            have HW5 : Hid (w.heap.size < w5.heap.size) := H6.out.1.lt
            go_wp2_with fail
            refine (build_rdy c false 1 4 HD.out (Or.inl ⟨rfl, rfl, rfl⟩)).mono ?_
            rintro e w6 ⟨sz, X, rfl, K6⟩
            generalize w5.heap.size = pg at *
            go_wp2_with fail
            refine (ascend_pg 0 K6.out (Or.inl ⟨rfl, rfl, rfl⟩) (by omega)).mono ?_
            rintro e w8 ⟨rfl, K8⟩
            rw [HO.out]
            have H8 : Hid (Row2 w w8 pre out) := by
              have hk := K8.out.1.rdy.keys.row
              rw [H7.out.2.2.2] at hk
              exact ⟨hk, H6.out.1.old, H6.out.1.pos, K8.out.1.rdy.bel, Nat.lt_trans HW5.out (lt_of_block K8.out.1.page.page)⟩
            have H9 : Hid (out.length = j ∧ sumK (pre ++ out) ≤ 40000 ∧ (pre ++ out).length = j) := ⟨H6.out.2.2.1, by rw [← H7.out.2.2.2]; exact H4.out, by rw [← H7.out.2.2.2]; exact H7.out.2.2.1⟩
            clear K6 K8 HD HO H4 H6 H7 HW5 h4 hsum hjl hj
            by_cases h0 : j = 0
            · have hz0 : ((j : Nat) : Int) = 0 := by omega
              go_wp2
              go_ret
              exact ⟨rfl, H8.out.bel⟩
            · have hz0 : decide (((j : Nat) : Int) = 0) = false := by simp; omega
              go_wp2_with fail
              obtain ⟨q, hq⟩ : ∃ q, q = j - 1 := ⟨_, rfl⟩
              have hw1 : IntKind.i64.wrap ((j : Int) - 1) = (q : Int) := by rw [i64_in (by omega)]; omega
              have hqa : (0 : Int) ≤ (q : Int) := by omega
              have hqb : (q : Int) < (j : Int) := by omega
              have hqc : q < j := by omega
              have hjc : j ≤ c := by have := HL.out; have := HC.out; have := hl1; omega
              have hcq : w8.cell? ⟨w.heap.size, q, none⟩ = some (encK (out.getD q noKey)) := by
                have := (H8.out.body q (by rw [H9.out.1]; exact hqc)).1
                rw [HP.out.1] at this
                rw [Nat.zero_add] at this; exact this
              have HOl : Hid (∀ W : World, Below w8.heap.size w8 W → ∀ i u, ((pre ++ out).map encK)[i]? = some u → W.cell? ⟨w.heap.size, i, none⟩ = some u) := fun W hb i u hi => by
                have hil : i < (pre ++ out).length := by
                  have := (List.getElem?_eq_some_iff.1 hi).1
                  simpa using this
                have := (H8.out.row i hil).1
                rw [Nat.zero_add] at this
                rw [cell_in hb this, ← hi, List.getElem?_map, List.getElem?_eq_getElem hil]
                simp only [Option.map_some, List.getD, List.getElem?_eq_getElem hil, Option.getD_some]
              have HOn : Hid (((pre ++ out).map encK).length = j ∧ q = j - 1) := ⟨by rw [List.length_map]; exact H9.out.2.2, hq⟩
              have hlt8 : w.heap.size < w8.heap.size := H8.out.lt
              clear hq
              obtain ⟨lp, ln, lc, hv⟩ : ∃ lp ln lc, encK (out.getD q noKey) = .slice lp ln lc := ⟨_, _, _, rfl⟩
              rw [hv] at hcq
              have HV : Hid (encK (out.getD q noKey) = .slice lp ln lc) := hv
              clear hv
              go_region_held3 (fun w' => w'.cell? ⟨w.heap.size, q, none⟩ = some (.slice lp ln lc)) (first | go_keep | exact dupKeep HN hcq) (first | (go_at_call 15; refine (clip_any w.heap.size 0 j c _ hjc (by omega)).mono ?_; rintro e w9 ⟨rfl, hw9⟩; subst w9) | (refine step_dup rfl (.tmp 87) (.tmp 94) rfl w.heap.size j 1 (w8.heap.size + 1) w8.heap.size ((pre ++ out).map encK) (.slice lp ln lc) rfl rfl (HOl.out _ (dupBelow _ _)) HOn.out.1 (dupNew _ _) rfl (by omega) (dupSize _ _) ?_; intro cap9 w9 HN))
              all_goals
                have HD9 : Hid (Rdy F w w9 (w8.heap.size + 1) (pre ++ out ++ [out.getD (j - 1) noKey]) (j + 1)) := dup_fin HN H8.out H9.out HV.out HOn.out.2 (by omega) (by omega) HI.out.kinds HI.out.ans
                have HBad : Hid (okB (xsOf (pre ++ out ++ [out.getD (j - 1) noKey])) 0 (j + 1) = false) := by
                  have := asc_bad (f := 0) HP.out.1 H9.out.1 (by omega)
                  rw [show 0 + j + 1 = j + 1 by have := HL.out; omega] at this
                  exact this
                clear HN HOl HOn HV hw1 hqa hqb hcq H8 H9
                generalize pre ++ out ++ [out.getD (j - 1) noKey] = kz at HD9 HBad
                generalize w8.heap.size + 1 = g9 at HD9 ⊢
                go_wp2_with fail
                refine (build_rdy cap9 false 1 4 HD9.out (Or.inl ⟨rfl, rfl, rfl⟩)).mono ?_
                rintro e w10 ⟨sz2, X2, rfl, K10⟩
                generalize w9.heap.size = pg2 at K10 ⊢
                go_wp2_with fail
                refine (ascend_pg 0 K10.out (Or.inl ⟨rfl, rfl, rfl⟩) (by omega)).mono ?_
                rintro e w11 ⟨rfl, K11⟩
                rw [HBad.out]
                go_wp2
                go_ret
                exact ⟨rfl, K11.out.1.rdy.bel⟩
set_option maxRecDepth 20000 in
set_option maxHeartbeats 4000000 in
theorem asc_law_1 (F : Interp) (a0 : Option Addr) (len0 cap0 : Nat) (P : Nat → Option Addr) (N C : Nat → Nat) (kbs : Nat → List Int) (w : World) (h : In F w a0 len0 P N C kbs) (hl : len0 ≤ 1024) :
    Calls Ybaf.prog 4 #[.slice a0 len0 cap0, .bool true] w fun e w' => e = .returned (.bool true) ∧ Below w.heap.size w w' := by
  have HI : Hid (In F w a0 len0 P N C kbs) := h
  obtain ⟨pre, hpre⟩ : ∃ pre : List Key, pre = [noKey] := ⟨_, rfl⟩
  have HP : Hid (pre.length = 1 ∧ pre = [noKey]) := ⟨by rw [hpre]; rfl, hpre⟩
  clear h hpre
  obtain ⟨c, hc⟩ : ∃ c, c = len0 + 2 := ⟨_, rfl⟩
  have hwc : IntKind.i64.wrap ((len0 : Int) + 2) = (c : Int) := by rw [i64_in (by omega), hc]; omega
  have HC : Hid (c = len0 + 2) := hc
  have hc1 : 2 ≤ c := by omega
  have hc2 : c ≤ 1026 := by omega
  clear hc
  obtain ⟨i0, hi, hz0, hz1, hz2⟩ := info_parts Ybaf.info23
  go_enter Ybaf.func4, Ybaf.ntmps4
  go_wp2_with (first | (at_make; refine wpList_make_own _ rfl _ _ 22 rfl w.heap.size 23 i0 (.slice none 0 0) 1 Ybaf.underlying22 hi hz0 hz1 _ _ _ c rfl rfl rfl (by rw [hz2]; omega) (by unfold maxLen; omega) (Nat.le_refl _) ?_))
  intro w1 hown hg
  have R1 : Hid (Row w w1 c []) := Row.made hown hg
  clear hown hg hz0 hz1 hz2 hi i0
  have hm0 : 0 < c := by omega
  go_wp2_with (first | (at_builtin; refine wpList_append_room1 _ rfl (.tmp 19) (.tmp 20) 22 22 rfl 23 (.slice none 0 0) 24 Ybaf.underlying22 Ybaf.info23 w.heap.size 0 0 c rfl _ rfl 1 [.slice none 0 0] (src1 rfl) (by omega) (room1 R1.out hm0).1 (room1 R1.out hm0).2 ?_))
  obtain ⟨w2, hw2⟩ : ∃ w2, w2 = (w1.alloc (.cells #[.slice none 0 0] 23)).setCells w.heap.size (0 + 0) [.slice none 0 0] := ⟨_, rfl⟩
  have R2 : Hid (Row w w2 c pre) := by
    rw [HP.out.2]
    exact R1.out.push (k := noKey) hm0 (Old.none w) hw2
  rw [← hw2]
  clear hw2 R1 hm0
  go_wp2
  go_loopw [5, 6] (fun s i wr => ∃ m k : Nat, k ≤ len0 ∧ i = .int .i64 k ∧ s = .slice (some ⟨w.heap.size, 0, none⟩) m c ∧ m ≤ k + 1 ∧ 1 ≤ m ∧ Hid (∃ ks : List Key, (pre ++ ks).length = m ∧ Row w wr c (pre ++ ks) ∧ ∀ x ∈ ks, 1 ≤ x.N)) (fun _ i _ => len0 - (intOf i).toNat)
  case atStart => exact ⟨1, 0, Nat.zero_le _, rfl, rfl, by omega, by omega, [], by rw [List.append_nil]; exact HP.out.1, by rw [List.append_nil]; exact R2.out, fun x hx => (by cases hx)⟩
  case round =>
    obtain ⟨m, k, hk, rfl, rfl, hmk, hfm, HK⟩ := hrel
    by_cases hlt : k < len0
    · obtain ⟨b, o, rfl, hcc⟩ := HI.out.keys.at' (by omega)
      have HW : Hid (∃ ks : List Key, (pre ++ ks).length = m ∧ Row w wr c (pre ++ ks) ∧ ∀ x ∈ ks, 1 ≤ x.N) := HK.out
      have hck : wr.cell? ⟨b, o + k, none⟩ = some (.slice (P k) (N k) (C k)) := by
        obtain ⟨ks, _, hr, _⟩ := HK.out
        exact cell_in hr.bel (hcc k hlt)
      have hNk := HI.out.mx k hlt
      clear hcc
      by_cases h1 : N k < 1
      · go_wp2
        go_roundw
        case rel => exact ⟨m, k + 1, hlt, by go_num, rfl, by omega, hfm, HW.out⟩
        case measure => simp [intOf]; omega
      · by_cases h2 : 1000 < N k
        · go_wp2
          go_roundw
          case rel => exact ⟨m, k + 1, hlt, by go_num, rfl, by omega, hfm, HW.out⟩
          case measure => simp [intOf]; omega
        · have hmc : m < c := by rw [HC.out]; omega
          obtain ⟨ks, hks, hr, hpos⟩ := HK.out
          have HR : Hid (Row w wr c (pre ++ ks)) := hr
          have HN : Hid ((pre ++ ks).length = m ∧ (∀ x ∈ ks, 1 ≤ x.N) ∧ Old w ⟨P k, N k, C k, kbs k⟩ ∧ 1 ≤ N k) := ⟨hks, hpos, ⟨HI.out.keys.els k hlt, by show N k ≤ 1000; omega, HI.out.bytes k hlt⟩, by omega⟩
          clear hks hr hpos HK HW
          go_wp2_with (first | (at_builtin; refine wpList_append_room1 _ rfl (.tmp 42) (.tmp 47) 22 22 rfl 23 (.slice none 0 0) 24 Ybaf.underlying22 Ybaf.info23 w.heap.size 0 m c rfl _ rfl 1 [.slice (P k) (N k) (C k)] (src1 rfl) (by omega) (room1 HR.out hmc).1 (room1 HR.out hmc).2 ?_))
          go_wp2
          go_roundw
          case rel =>
            refine ⟨m + 1, k + 1, hlt, by go_num, rfl, by omega, by omega, ks ++ [⟨P k, N k, C k, kbs k⟩], by rw [← List.append_assoc, List.length_append, HN.out.1]; rfl, ?_, ?_⟩
            · rw [← List.append_assoc]
              exact HR.out.push (k := ⟨P k, N k, C k, kbs k⟩) (by rw [HN.out.1]; exact hmc) HN.out.2.2.1 (o := .cells #[.slice (P k) (N k) (C k)] 23) (by rw [HN.out.1, Nat.zero_add]; rfl)
            · intro x hx
              rcases List.mem_append.1 hx with hx | hx
              · exact HN.out.2.1 x hx
              · obtain rfl := List.mem_singleton.1 hx
                exact HN.out.2.2.2
          case measure => simp [intOf]; omega
    · obtain rfl : k = len0 := by omega
      have H2 : Hid (∃ body, Row2 w wr pre body ∧ (pre ++ body).length = m) := by
        obtain ⟨ks, h1, h2, h3⟩ := HK.out
        exact ⟨ks, ⟨h2.row, h2.old, h3, h2.bel, h2.lt⟩, h1⟩
      clear HK R2
      obtain ⟨body, hbody⟩ := H2.out
      have H3 : Hid (Row2 w wr pre body ∧ (pre ++ body).length = m) := hbody
      clear hbody H2
      have hcne : ¬ c = 1 := by omega
      have hm1a : (1 : Int) ≤ (m : Int) := by omega
      have hm1b : (m : Int) ≤ (c : Int) := by rw [HC.out]; omega
      have hm1c : 1 ≤ m := by omega
      go_wp2_with fail
      generalize hm1 : m - 1 = m1
      generalize hc3 : c - 1 = c3
      have HB : Hid (body.length = m1 ∧ m1 ≤ 1024 ∧ m1 ≤ c3 ∧ m = m1 + 1 ∧ c = c3 + 1 ∧ m ≤ c) := ⟨by have := H3.out.2; rw [List.length_append, HP.out.1] at this; omega, by omega, by have := HC.out; omega, by omega, by omega, by have := HC.out; omega⟩
      have hmb : m1 ≤ 1024 := HB.out.2.1
      clear hm1 hc3 hm1a hm1b hm1c
      refine (sort_row c3 H3.out.1 HP.out.1 HB.out.1 (by omega)).mono ?_
      rintro e w3 ⟨rfl, bs, H4⟩
      go_wp2_with fail
      refine (compact_row c3 H4.out HP.out.1 (by omega) HB.out.2.2.1).mono ?_
      rintro e w4 ⟨out, l, rfl, hlm, H5⟩
      clear H4 H3
      have HS : Hid (Src Ybaf.prog 1 22 (.slice (some ⟨w.heap.size, 1, none⟩) l c3) l (out.map encK) w4 ∧ 1 + l ≤ c ∧ (∀ j, j < (out.map encK).length → (w4.cell? ⟨w.heap.size, 0 + 1 + j, none⟩).isSome = true) ∧ ∀ j, j < (out.map encK).length → w4.frozen? ⟨w.heap.size, 0 + 1 + j, none⟩ = false) :=
        ⟨(app_src H5.out.1 HP.out.1 H5.out.2.2 c3).1, by have := HB.out; omega, (app_src H5.out.1 HP.out.1 H5.out.2.2 c3).2.1, (app_src H5.out.1 HP.out.1 H5.out.2.2 c3).2.2⟩
      have hr1 : (1 : Int) ≤ (m : Int) := by omega
      have hr2 : (1 : Int) ≤ (c : Int) := by omega
      go_wp2_with (first | (at_builtin; refine wpList_append_room1 _ rfl (.tmp 59) (.tmp 60) 22 22 rfl 23 (.slice none 0 0) 24 Ybaf.underlying22 Ybaf.info23 w.heap.size 0 1 c rfl _ rfl l (out.map encK) HS.out.1 HS.out.2.1 HS.out.2.2.1 HS.out.2.2.2 ?_))
      generalize hw5 : w4.setCells w.heap.size 1 (List.map encK out) = w5
      generalize hL : 1 + l = L
      have H6 : Hid (Row2 w w5 pre out ∧ Asc out ∧ out.length = l ∧ (pre ++ out).length = L) := ⟨H5.out.1.append (by rw [HP.out.1]; exact hw5.symm), H5.out.2.1, H5.out.2.2, by rw [List.length_append, HP.out.1, H5.out.2.2]; exact hL⟩
      have HL : Hid (L = 1 + l ∧ l ≤ c3 ∧ L ≤ c) := ⟨hL.symm, by have := HB.out; omega, by have := HB.out; omega⟩
      have hl1 : L ≤ 1025 := by omega
      have hl2 : l < L := by omega
      clear H5 HS hr1 hr2 hw5 hL hlm hmb hfm hmk HB hcne hlt hk
      obtain ⟨ks, hks⟩ : ∃ ks, ks = pre ++ out := ⟨_, rfl⟩
      have H7 : Hid (RowK w5 w.heap.size 0 ks ∧ (∀ x ∈ ks, Old w x) ∧ ks.length = L ∧ ks = pre ++ out) := by
        rw [hks]; exact ⟨H6.out.1.row, H6.out.1.old, H6.out.2.2.2, rfl⟩
      clear hks
      go_loop [8, 9] (fun s i => ∃ j : Nat, j ≤ L ∧ i = .int .i64 j ∧ s = .int .i64 (sumN (nOf ks) j : Nat) ∧ sumN (nOf ks) j ≤ 1000 * j) (fun _ i => L - (intOf i).toNat)
      case atStart => exact ⟨0, Nat.zero_le _, rfl, rfl, Nat.le_refl _⟩
      case round =>
        obtain ⟨j, hj, rfl, rfl, hsum⟩ := hrel
        by_cases hjl : j < L
        · have hcj : w5.cell? ⟨w.heap.size, j, none⟩ = some (.slice (ks.getD j noKey).P (nOf ks j) (ks.getD j noKey).C) := by
            have := (H7.out.1 j (by rw [H7.out.2.2.1]; exact hjl)).1
            rw [Nat.zero_add] at this
            exact this
          have hNj : nOf ks j ≤ 1000 := (H7.out.2.1 _ (getD_mem (by rw [H7.out.2.2.1]; exact hjl))).mx
          have HS : Hid (sumN (nOf ks) (j + 1) = sumN (nOf ks) j + nOf ks j) := rfl
          generalize nOf ks j = Nj at *
          generalize sumN (nOf ks) j = Sj at *
          go_wp2
          go_round
          case rel => exact ⟨j + 1, hjl, by go_num, congrArg (Value.int .i64) (by rw [HS.out]; omega), by rw [HS.out]; omega⟩
          case measure => simp [intOf]; omega
        · obtain rfl : j = L := by omega
          by_cases h4 : 40000 < sumN (nOf ks) j
          · go_wp2
            go_ret
            exact ⟨rfl, H6.out.1.bel⟩
          · have H4 : Hid (sumK ks ≤ 40000) := by
              show sumK ks ≤ 40000
              rw [← nOf_sum ks, H7.out.2.2.1]; omega
            have HD : Hid (Rdy F w w5 w.heap.size ks j) := by
              rw [H7.out.2.2.2]
              exact H6.out.1.rdy (by rw [← H7.out.2.2.2]; have := H4.out; omega) (by rw [← H7.out.2.2.2]; exact H7.out.2.2.1) (by omega) HI.out.kinds HI.out.ans
            have HO : Hid (okB (xsOf ks) 1 j = true) := by
              rw [H7.out.2.2.2]
              exact asc_ok H6.out.1 H6.out.2.1 HP.out.1 (by rw [← H7.out.2.2.2]; exact H7.out.2.2.1)
            have HW5 : Hid (w.heap.size < w5.heap.size) := H6.out.1.lt
            go_wp2_with fail
            refine (build_rdy c true 2 6 HD.out (Or.inr ⟨rfl, rfl, rfl⟩)).mono ?_
            rintro e w6 ⟨sz, X, rfl, K6⟩
            generalize w5.heap.size = pg at *
            go_wp2_with fail
            refine (ascend_pg 1 K6.out (Or.inr ⟨rfl, rfl, rfl⟩) (by omega)).mono ?_
            rintro e w8 ⟨rfl, K8⟩
            rw [HO.out]
            have H8 : Hid (Row2 w w8 pre out) := by
              have hk := K8.out.1.rdy.keys.row
              rw [H7.out.2.2.2] at hk
              exact ⟨hk, H6.out.1.old, H6.out.1.pos, K8.out.1.rdy.bel, Nat.lt_trans HW5.out (lt_of_block K8.out.1.page.page)⟩
            have H9 : Hid (out.length = l ∧ sumK (pre ++ out) ≤ 40000 ∧ (pre ++ out).length = j) := ⟨H6.out.2.2.1, by rw [← H7.out.2.2.2]; exact H4.out, by rw [← H7.out.2.2.2]; exact H7.out.2.2.1⟩
            clear K6 K8 HD HO H4 H6 H7 HW5 h4 hsum hjl hj
            by_cases h0 : l = 0
            · have hz0 : ((l : Nat) : Int) = 0 := by omega
              go_wp2
              go_ret
              exact ⟨rfl, H8.out.bel⟩
            · have hz0 : decide (((l : Nat) : Int) = 0) = false := by simp; omega
              go_wp2_with fail
              obtain ⟨q, hq⟩ : ∃ q, q = l - 1 := ⟨_, rfl⟩
              have hw1 : IntKind.i64.wrap ((l : Int) - 1) = (q : Int) := by rw [i64_in (by omega)]; omega
              have hqa : (0 : Int) ≤ (q : Int) := by omega
              have hqb : (q : Int) < (l : Int) := by omega
              have hqc : q < l := by omega
              have hjc : j ≤ c := by have := HL.out; have := HC.out; have := hl1; omega
              have hcq : w8.cell? ⟨w.heap.size, 1 + q, none⟩ = some (encK (out.getD q noKey)) := by
                have := (H8.out.body q (by rw [H9.out.1]; exact hqc)).1
                rw [HP.out.1] at this
                exact this
              have HOl : Hid (∀ W : World, Below w8.heap.size w8 W → ∀ i u, ((pre ++ out).map encK)[i]? = some u → W.cell? ⟨w.heap.size, i, none⟩ = some u) := fun W hb i u hi => by
                have hil : i < (pre ++ out).length := by
                  have := (List.getElem?_eq_some_iff.1 hi).1
                  simpa using this
                have := (H8.out.row i hil).1
                rw [Nat.zero_add] at this
                rw [cell_in hb this, ← hi, List.getElem?_map, List.getElem?_eq_getElem hil]
                simp only [Option.map_some, List.getD, List.getElem?_eq_getElem hil, Option.getD_some]
              have HOn : Hid (((pre ++ out).map encK).length = j ∧ q = l - 1) := ⟨by rw [List.length_map]; exact H9.out.2.2, hq⟩
              have hlt8 : w.heap.size < w8.heap.size := H8.out.lt
              clear hq
              obtain ⟨lp, ln, lc, hv⟩ : ∃ lp ln lc, encK (out.getD q noKey) = .slice lp ln lc := ⟨_, _, _, rfl⟩
              rw [hv] at hcq
              have HV : Hid (encK (out.getD q noKey) = .slice lp ln lc) := hv
              clear hv
              go_region_held3 (fun w' => w'.cell? ⟨w.heap.size, 1 + q, none⟩ = some (.slice lp ln lc)) (first | go_keep | exact dupKeep HN hcq) (first | (go_at_call 15; refine (clip_any w.heap.size 0 j c _ hjc (by omega)).mono ?_; rintro e w9 ⟨rfl, hw9⟩; subst w9) | (refine step_dup rfl (.tmp 87) (.tmp 94) rfl w.heap.size j 1 (w8.heap.size + 1) w8.heap.size ((pre ++ out).map encK) (.slice lp ln lc) rfl rfl (HOl.out _ (dupBelow _ _)) HOn.out.1 (dupNew _ _) rfl (by omega) (dupSize _ _) ?_; intro cap9 w9 HN))
              all_goals
                have HD9 : Hid (Rdy F w w9 (w8.heap.size + 1) (pre ++ out ++ [out.getD (l - 1) noKey]) (j + 1)) := dup_fin HN H8.out H9.out HV.out HOn.out.2 (by omega) (by omega) HI.out.kinds HI.out.ans
                have HBad : Hid (okB (xsOf (pre ++ out ++ [out.getD (l - 1) noKey])) 1 (j + 1) = false) := by
                  have := asc_bad (f := 1) HP.out.1 H9.out.1 (by omega)
                  rw [show 1 + l + 1 = j + 1 by have := HL.out; omega] at this
                  exact this
                clear HN HOl HOn HV hw1 hqa hqb hcq H8 H9
                generalize pre ++ out ++ [out.getD (l - 1) noKey] = kz at HD9 HBad
                generalize w8.heap.size + 1 = g9 at HD9 ⊢
                go_wp2_with fail
                refine (build_rdy cap9 true 2 6 HD9.out (Or.inr ⟨rfl, rfl, rfl⟩)).mono ?_
                rintro e w10 ⟨sz2, X2, rfl, K10⟩
                generalize w9.heap.size = pg2 at K10 ⊢
                go_wp2_with fail
                refine (ascend_pg 1 K10.out (Or.inr ⟨rfl, rfl, rfl⟩) (by omega)).mono ?_
                rintro e w11 ⟨rfl, K11⟩
                rw [HBad.out]
                go_wp2
                go_ret
                exact ⟨rfl, K11.out.1.rdy.bel⟩

/-- LawS5056CAscending, whatever comes in. -/
theorem asc_law (F : Interp) (a0 : Option Addr) (len0 cap0 : Nat) (i : Bool) (P : Nat → Option Addr) (N C : Nat → Nat) (kbs : Nat → List Int) (w : World) (h : In F w a0 len0 P N C kbs) :
    Calls Ybaf.prog 4 #[.slice a0 len0 cap0, .bool i] w fun e w' => e = .returned (.bool true) ∧ Below w.heap.size w w' := by
  by_cases hl : 1024 < len0
  · exact asc_long a0 len0 cap0 _ w hl
  · cases i
    · exact asc_law_0 F a0 len0 cap0 P N C kbs w h (by omega)
    · exact asc_law_1 F a0 len0 cap0 P N C kbs w h (by omega)
end Go.Proofs.YbulkczrmFmt
