import Derived.Test.YbulkczwiIn
namespace Go.Proofs.Ybulkczwi
open Go.RowKit
open Go.ChangeMaps (setBlock)
set_option linter.unusedVariables false
set_option linter.unusedSimpArgs false
theorem Yba.info3 : (Yba.prog.info? 3).map (fun i => (i.zero, i.size, i.bytes)) = some (some (.int .i64 0), 1, 8) := by kernel_rfl
theorem ms_one (e k : Nat) : ∀ u ∈ msCells e k, u.oneCell' = true := by
  intro u hu
  simp only [msCells, List.mem_cons, List.not_mem_nil, or_false] at hu
  rcases hu with rfl | rfl | rfl | rfl | rfl | rfl | rfl | rfl | rfl | rfl | rfl <;> rfl
theorem run_rem {x y z : Int} (hk : ¬ y = 0) (h : x.tmod y = z) (W : World) : (Op.intDiv .rem .i64 x y).run Yba.prog W = .ok (.int .i64 z) W := by
  unfold Op.intDiv; rw [if_neg hk, h]; rfl
theorem len_map {W : World} {b n : Nat} (h : W.heap[b]? = some (.map (posEs n) n)) : (Builtin.len_ #[27] 3 #[.map (some b)]).run Yba.prog W = .ok (.int .i64 n) W := by
  simp [Builtin.len_, run_underlying Yba.underlying27, getObj, Sem.run, h, posEs_size, goInt]
theorem belD {W W' : World} (hb : Below W.drew.heap.size W.drew W') : Below W.heap.size W W' := ⟨hb.os, hb.tape, hb.output, hb.size, hb.block⟩
theorem keepD {W W' : World} {a : Addr} {v : Value} (hb : Below W.drew.heap.size W.drew W') (h : W.cell? a = some v) : W'.cell? a = some v := cell_in (belD hb) h
theorem img_one (i : Nat) (v : Value) (h : v.oneCell' = true := by rfl) : ∀ u ∈ imgCells i v, u.oneCell' = true := by
  intro u hu
  simp only [imgCells, List.mem_cons, List.not_mem_nil, or_false] at hu
  rcases hu with rfl | rfl | rfl | rfl | rfl | rfl | rfl | rfl | rfl | rfl | rfl <;> first | rfl | exact h

/-- what stands behind the call of attachEarly -/
def rest35 : Code → Option Code
  | .seq (.region 35 _ _) b => some b
  | .seq a b => match rest35 b with
    | some c => some c
    | none => rest35 a
  | _ => none

set_option maxRecDepth 40000 in
set_option maxHeartbeats 8000000 in
theorem tail (w W20 : World) (a0 a1 a2 : Option Addr) (i c0 j c1 e c2 cb pm gK cI cU U : Nat) (aI aU : Option Addr) (pp : Nat → Option Addr) (pn pc : Nat → Nat) (Pr : Nat → List Int) (pre : List Int) (Of : Nat → Nat) (key : Nat → Nat) (av : Nat → Value)
    (HI : Hid (InL w a0 i pp pn pc Pr a1 j pre a2 e Of)) (hn : i ≤ 300) (hnp : j ≤ 1024) (hm : e ≤ 1024) (HL : Hid (∀ x, x < i → pn x ≤ 1024))
    (HF : Hid (Fin w W20 cb pm i e (.slice aI i cI) (.slice aU U cU) (.slice (some ⟨gK, 0, none⟩) e e) key av Pr (pre ++ ear2 key i e))) (HUU : Hid (U = (pre ++ ear2 key i e).length)) (HIf : Hid (0 < i → ∃ g, aI = some ⟨g, 0, none⟩)) (HUf : Hid (0 < U → ∃ g, aU = some ⟨g, 0, none⟩)) (hul : U ≤ 2048)
    {y3 y4 y5 y6 y7 y10 y11 y12 y13 y14 y15 y16 y18 y19 y20 y21 y22 y23 y24 y25 y26 y27 y28 y29 y30 y31 y32 y33 y34 y35 y36 y37 y38 y39 y40 y41 y42 y43 y44 y45 y46 y47 y48 y49 y50 y51 y52 y53 y54 y55 y56 y57 y58 y59 y60 y61 y62 y63 y64 y65 y66 y67 y68 y69 y70 y71 y72 y73 y74 y75 y76 y77 y78 y79 y80 y81 y82 y83 y84 y85 y86 y87 y88 y89 y90 y91 y92 y93 y94 y95 y96 y97 y98 y99 y100 y101 y102 y103 y104 y105 y106 y107 y108 y109 y110 y111 y112 y113 y114 y115 y116 y117 y118 y119 y120 y121 y122 y123 y124 y125 y126 y127 y128 y129 y130 y131 y132 y133 y134 y135 y136 y137 y138 y139 y140 y141 y142 y143 y144 y145 y146 y147 y148 y149 y150 y151 y152 y153 y154 y155 y156 y157 y158 y159 y160 y161 y162 y163 y164 y165 y166 y167 y168 y169 y170 y171 y172 y173 y174 y175 y176 y177 y178 y179 y180 y181 y182 y183 y184 y185 y186 y187 y188 y189 y190 y191 y192 y193 y194 y195 y196 y197 y198 y199 y200 y201 y202 y203 y204 y205 y206 y207 y208 y209 y210 y211 y212 y213 y214 y215 y216 y217 y218 y219 y220 y221 y222 y223 y224 y225 y226 y227 y228 y229 y230 y231 y232 y233 y234 y235 y236 y237 y238 y239 y240 y241 y242 y243 y244 y245 y246 y247 y248 y249 y250 y251 y252 y253 y254 y255 y256 y257 y258 y259 y260 y261 y262 y263 y264 y265 y266 y267 y268 y269 y270 y271 y272 y273 y274 y275 y276 y277 y278 y279 y280 y281 y282 y283 y284 y285 y286 y287 y288 y289 y290 y291 y292 y293 y294 y295 y296 y297 y298 y299 y300 y301 y302 y303 y304 y305 y306 y307 y308 y309 y310 y311 y312 y313 y314 y315 y316 y317 y318 y319 y320 y321 y322 y323 y324 y325 y326 y327 y328 y329 y330 y331 y332 : Value} :
    Code.wp Yba.prog ((Yba.f3.body.bind rest35).getD .skip) (bodyPost Yba.prog Yba.f3 fun e w' => e = .returned (.bool true) ∧ Below w.heap.size w w') ⟨#[.slice a0 i c0, .slice a1 j c1, .slice a2 e c2, y3, y4, y5, y6, y7, .int .i64 i, .pointer (some ⟨cb, 0, none⟩), y10, y11, y12, y13, y14, y15, y16, .slice (some ⟨gK, 0, none⟩) e e, y18, y19, y20, y21, y22, y23, y24, y25, y26, y27, y28, y29, y30, y31, y32, y33, y34, y35, y36, y37, y38, y39, y40, y41, y42, y43, y44, y45, y46, y47, y48, y49, y50, y51, y52, y53, y54, y55, y56, y57, y58, y59, y60, y61, y62, y63, y64, y65, y66, y67, y68, y69, y70, y71, y72, y73, y74, y75, y76, y77, y78, y79, y80, y81, y82, y83, y84, y85, y86, y87, y88, y89, y90, y91, y92, y93, y94, y95, y96, y97, y98, y99, y100, y101, y102, y103, y104, y105, y106, y107, y108, y109, y110, y111, y112, y113, y114, y115, y116, y117, y118, y119, y120, y121, y122, y123, y124, y125, y126, y127, y128, y129, y130, y131, y132, y133, y134, y135, y136, y137, y138, y139, y140, y141, y142, y143, y144, y145, y146, y147, y148, y149, y150, y151, y152, y153, y154, y155, y156, y157, y158, y159, y160, y161, y162, y163, y164, y165, y166, y167, y168, y169, y170, y171, y172, y173, y174, y175, y176, y177, y178, y179, y180, y181, y182, y183, y184, y185, y186, y187, y188, y189, y190, y191, y192, y193, y194, y195, y196, y197, y198, y199, y200, y201, y202, y203, y204, y205, y206, y207, y208, y209, y210, y211, y212, y213, y214, y215, y216, y217, y218, y219, y220, y221, y222, y223, y224, y225, y226, y227, y228, y229, y230, y231, y232, y233, y234, y235, y236, y237, y238, y239, y240, y241, y242, y243, y244, y245, y246, y247, y248, y249, y250, y251, y252, y253, y254, y255, y256, y257, y258, y259, y260, y261, y262, y263, y264, y265, y266, y267, y268, y269, y270, y271, y272, y273, y274, y275, y276, y277, y278, y279, y280, y281, y282, y283, y284, y285, y286, y287, y288, y289, y290, y291, y292, y293, y294, y295, y296, y297, y298, y299, y300, y301, y302, y303, y304, y305, y306, y307, y308, y309, y310, y311, y312, y313, y314, y315, y316, y317, y318, y319, y320, y321, y322, y323, y324, y325, y326, y327, y328, y329, y330, y331, y332], []⟩ W20 := by
  conv => arg 2; whnf
  have q0 := HF.out.cell.1
  have q1 := HF.out.cell.2.1
  have q2 := HF.out.cell.2.2
  have hlm : (posEs i).size = i := posEs_size i
  have hpm := HF.out.pos
  have hlen := len_map hpm
  clear hlm hpm
  go_wp2
  clear hlen q0 q1 q2
  go_loopw [21] (fun s wr => ∃ q : Nat, q ≤ i ∧ s = .int .i64 q ∧ Hid (Fin w wr cb pm i e (.slice aI i cI) (.slice aU U cU) (.slice (some ⟨gK, 0, none⟩) e e) key av Pr (pre ++ ear2 key i e))) (fun s _ => i - (intOf s).toNat)
  case atStart => exact ⟨0, Nat.zero_le _, rfl, HF.out⟩
  case round =>
    clear HF
    obtain ⟨q, hq, rfl, HF⟩ := hrel
    by_cases hql : q < i
    · obtain ⟨gI, haI⟩ := HIf.out (by omega)
      subst haI
      have q0 := HF.out.cell.1
      obtain ⟨aq, cq, hav, haq⟩ := own_form (HF.out.att q hql)
      obtain ⟨L, hL⟩ : ∃ L, L = (ear key q e ++ Pr q).length := ⟨_, rfl⟩
      rw [← hL] at hav haq
      have hx : ∀ j, j < 11 → wr.cell? ⟨gI, q * 11 + j, none⟩ = (imgCells q (.slice aq L cq))[j]? := fun j hj => by
        have h1 := imgs_get av hql hj
        rw [hav] at h1
        obtain ⟨v, hv⟩ : ∃ v, (imgCells q (.slice aq L cq))[j]? = some v := ⟨_, List.getElem?_eq_getElem (by show j < 11; exact hj)⟩
        rw [hv] at h1 ⊢
        exact own_cell HF.out.img h1
      have h0 := hx 0 (by omega)
      have h1 := hx 1 (by omega)
      have h2 := hx 2 (by omega)
      have h3 := hx 3 (by omega)
      have h4 := hx 4 (by omega)
      have h5 := hx 5 (by omega)
      have h6 := hx 6 (by omega)
      have h7 := hx 7 (by omega)
      have h8 := hx 8 (by omega)
      have h9 := hx 9 (by omega)
      have h10 := hx 10 (by omega)
      simp only [imgCells, List.getElem?_cons_zero, List.getElem?_cons_succ, Nat.add_zero] at h0 h1 h2 h3 h4 h5 h6 h7 h8 h9 h10
      have hqa : (0 : Int) ≤ (q : Int) := by omega
      have hqb : (q : Int) < (i : Int) := by omega
      have HQ : Hid (L = (ear key q e ++ Pr q).length ∧ av q = .slice aq L cq ∧ (0 < L → ∃ g, aq = some ⟨g, 0, none⟩)) := ⟨hL, hav, haq⟩
      have H2 : Hid (Fin w (wr.alloc (.cells (imgCells q (.slice aq L cq)).toArray 43)) cb pm i e (.slice (some ⟨gI, 0, none⟩) i cI) (.slice aU U cU) (.slice (some ⟨gK, 0, none⟩) e e) key av Pr (pre ++ ear2 key i e) ∧ (wr.alloc (.cells (imgCells q (.slice aq L cq)).toArray 43)).heap[wr.heap.size]? = some (.cells (imgCells q (.slice aq L cq)).toArray 43 (0, 0))) := ⟨HF.out.below ((Below.refl _ wr).alloc (Nat.le_refl _) _), heap_alloc_new wr _⟩
      clear hL hav haq hx HF
      go_wp2_with fail
      clear q0 h0 h1 h2 h3 h4 h5 h6 h7 h8 h9 h10
      generalize wr.alloc (.cells (imgCells q (.slice aq L cq)).toArray 43) = W2 at H2 ⊢
      generalize wr.heap.size = gB at H2 ⊢
      have r1 : W2.cell? ⟨gB, 1, none⟩ = some (.string shaText) := by rw [cell_of_row _ _ _ _ _ _ H2.out.2]; rfl
      have r2 : W2.cell? ⟨gB, 2, none⟩ = some (.string (aText q)) := by rw [cell_of_row _ _ _ _ _ _ H2.out.2]; rfl
      have r3 : W2.cell? ⟨gB, 3, none⟩ = some (.int .i64 q) := by rw [cell_of_row _ _ _ _ _ _ H2.out.2]; rfl
      have hq1 : q ≤ 1000 := by omega
      go_region_held3 (fun w' => w'.cell? ⟨gB, 1, none⟩ = some (.string shaText) ∧ w'.cell? ⟨gB, 2, none⟩ = some (.string (aText q)) ∧ w'.cell? ⟨gB, 3, none⟩ = some (.int .i64 q)) (go_keep) (first | (go_at_call 4; refine (digest_any q _ hq1).mono ?_; rintro ee W3 ⟨rfl, hb3⟩; have k1 := keepD hb3 r1; have k2 := keepD hb3 r2; have k3 := keepD hb3 r3))
      have H3 : Hid (Fin w W3 cb pm i e (.slice (some ⟨gI, 0, none⟩) i cI) (.slice aU U cU) (.slice (some ⟨gK, 0, none⟩) e e) key av Pr (pre ++ ear2 key i e) ∧ W3.heap[gB]? = some (.cells (imgCells q (.slice aq L cq)).toArray 43 (0, 0))) := ⟨H2.out.1.below (belD hb3), (belD hb3).block gB (lt_of_block H2.out.2) ▸ H2.out.2⟩
      clear r1 r2 r3 k1 k2 k3 hb3 H2
      go_wp2_with fail
      have p1 := H3.out.1.cell.2.1
      go_region_held3 (fun w' => w'.cell? ⟨cb, 1, none⟩ = some (.map (some pm))) (go_keep) (first | (go_at_call 4; refine (digest_any q _ hq1).mono ?_; rintro ee W4 ⟨rfl, hb4⟩; have k1 := keepD hb4 p1; have hlk := pos_hit (k := q) (H3.out.1.below (belD hb4)).pos (by omega) hql))
      have H4 : Hid (Fin w W4 cb pm i e (.slice (some ⟨gI, 0, none⟩) i cI) (.slice aU U cU) (.slice (some ⟨gK, 0, none⟩) e e) key av Pr (pre ++ ear2 key i e) ∧ W4.heap[gB]? = some (.cells (imgCells q (.slice aq L cq)).toArray 43 (0, 0))) := ⟨H3.out.1.below (belD hb4), (belD hb4).block gB (lt_of_block H3.out.2) ▸ H3.out.2⟩
      clear p1 k1 hlk hb4 H3
      go_wp2
      go_loopw [25, 26] (fun s t wr => ∃ x : Nat, x ≤ e ∧ t = .int .i64 x ∧ s = .int .i64 ((ear key q x).length : Nat) ∧ Hid (Fin w wr cb pm i e (.slice (some ⟨gI, 0, none⟩) i cI) (.slice aU U cU) (.slice (some ⟨gK, 0, none⟩) e e) key av Pr (pre ++ ear2 key i e) ∧ wr.heap[gB]? = some (.cells (imgCells q (.slice aq L cq)).toArray 43 (0, 0)))) (fun _ t _ => e - (intOf t).toNat)
      case atStart => exact ⟨0, Nat.zero_le _, rfl, rfl, H4.out⟩
      case round =>
        obtain ⟨x, hx, rfl, rfl, HX⟩ := hrel
        have hlx := ear_len key q x
        by_cases hxl : x < e
        · have hkx := HX.out.1.key_cell hxl
          have hxa : (0 : Int) ≤ (x : Int) := by omega
          have hxb : (x : Int) < (e : Int) := by omega
          by_cases hk : key x = q
          · have hg0 := ear_get hk e hxl
            obtain ⟨jj, hjj⟩ : ∃ jj, jj = (ear key q x).length := ⟨_, rfl⟩
            have hjL : jj < L := by
              have h1 := (List.getElem?_eq_some_iff.1 hg0).1
              rw [hjj, HQ.out.1, List.length_append]; omega
            obtain ⟨ga, hga⟩ := HQ.out.2.2 (by omega)
            subst hga
            have hown := HX.out.1.att q hql
            rw [HQ.out.2.1, ← HQ.out.1] at hown
            have hc := desc_cells (j := jj) (s := 1000000 + (x : Int)) hown (by rw [hjj, List.getElem?_append_left (List.getElem?_eq_some_iff.1 hg0).1]; exact hg0)
            obtain ⟨d0, d1, d2, d3, d4, d5, d6, d7, d8⟩ := hc
            have r10 : wr.cell? ⟨gB, 10, none⟩ = some (.slice (some ⟨ga, 0, none⟩) L cq) := by rw [cell_of_row _ _ _ _ _ _ HX.out.2]; rfl
            have HS : Hid ((ear key q (x + 1)).length = jj + 1) := by rw [ear_succ, if_pos hk, List.length_append, ← hjj]; exact rfl
            rw [hk] at hkx
            rw [← hjj] at hlx ⊢
            have hgd : decide ((L : Int) ≤ (jj : Int)) = false := by simp; omega
            have hgn : ¬ L ≤ jj := by omega
            have hja : (0 : Int) ≤ (jj : Int) := by omega
            have hjb : (jj : Int) < (L : Int) := by omega
            have hwe : IntKind.i64.wrap (1000000 + (x : Int)) = 1000000 + (x : Int) := i64_in (by omega)
            clear hown hg0 hjj hk H4
            go_wp2_with (first | (go_at_call 6; refine (same_any _ _).mono ?_; rintro ee W5 ⟨rfl, hb5⟩))
            have H5 : Hid (Fin w W5 cb pm i e (.slice (some ⟨gI, 0, none⟩) i cI) (.slice aU U cU) (.slice (some ⟨gK, 0, none⟩) e e) key av Pr (pre ++ ear2 key i e) ∧ W5.heap[gB]? = some (.cells (imgCells q (.slice (some ⟨ga, 0, none⟩) L cq)).toArray 43 (0, 0))) := ⟨HX.out.1.below hb5, hb5.block gB (lt_of_block HX.out.2) ▸ HX.out.2⟩
            clear d0 d1 d2 d3 d4 d5 d6 d7 d8 r10 hb5 HX hkx hgd hwe
            go_roundw
            case rel => exact ⟨x + 1, hxl, by go_num, by rw [HS.out]; go_num, H5.out⟩
            case measure => simp [intOf]; omega
          · have HS : Hid (ear key q (x + 1) = ear key q x) := by rw [ear_succ, if_neg hk]; exact rfl
            generalize key x = kx at hkx hk
            have hne : ¬ ((kx : Nat) : Int) = (q : Int) := by omega
            have hnb : (((kx : Nat) : Int) == (q : Int)) = false := by simpa using hne
            have HXX := HX
            clear H4 HX
            go_wp2
            go_roundw
            case rel => exact ⟨x + 1, hxl, by go_num, by rw [HS.out], HXX.out⟩
            case measure => simp [intOf]; omega
        · obtain rfl : x = e := by omega
          obtain ⟨jj, hjj⟩ : ∃ jj, jj = (ear key q x).length := ⟨_, rfl⟩
          rw [← hjj] at hlx ⊢
          obtain ⟨b, o, rfl, hc⟩ := HI.out.img (by omega)
          obtain ⟨ppq, hppq⟩ : ∃ ppq, ppq = pp q := ⟨_, rfl⟩
          have HPQ : Hid (ppq = pp q) := hppq
          have hck : wr.cell? ⟨b, o + q, none⟩ = some (.slice ppq (pn q) (pc q)) := by rw [hppq]; exact cell_in HX.out.1.bel (hc q hql)
          have r10 : wr.cell? ⟨gB, 10, none⟩ = some (.slice aq L cq) := by rw [cell_of_row _ _ _ _ _ _ HX.out.2]; rfl
          have hpq := HL.out q hql
          have HLL : Hid (L = jj + pn q ∧ jj = (ear key q x).length) := ⟨by rw [HQ.out.1, List.length_append, (HI.out.pri q hql).len, ← hjj], hjj⟩
          have hLe : L ≤ 2048 := by rw [HLL.out.1]; omega
          have hws : IntKind.i64.wrap ((jj : Int) + (pn q : Int)) = (L : Int) := by rw [i64_in (by omega), HLL.out.1]; omega
          have HX8 := HX
          clear hc hppq hjj H4 HX hx hxl
          go_wp2
          clear hck r10 hws
          go_loopw [28] (fun s wr => ∃ p : Nat, p ≤ pn q ∧ s = .int .i64 p ∧ Hid (Fin w wr cb pm i x (.slice (some ⟨gI, 0, none⟩) i cI) (.slice aU U cU) (.slice (some ⟨gK, 0, none⟩) x x) key av Pr (pre ++ ear2 key i x) ∧ wr.heap[gB]? = some (.cells (imgCells q (.slice aq L cq)).toArray 43 (0, 0)))) (fun s _ => pn q - (intOf s).toNat)
          case atStart => exact ⟨0, Nat.zero_le _, rfl, HX8.out⟩
          case round =>
            obtain ⟨p, hp, rfl, HP⟩ := hrel
            by_cases hpl : p < pn q
            · obtain ⟨b3, o3, hpp, hcj⟩ := (HI.out.pri q hql).at' (by omega)
              obtain rfl : ppq = some ⟨b3, o3, none⟩ := HPQ.out.trans hpp
              have hcell : wr.cell? ⟨b3, o3 + p, none⟩ = some (.int .u16 ((Pr q).getD p 0)) := cell_in HP.out.1.bel (hcj p hpl)
              have hxr := (HI.out.pri q hql).get hpl
              obtain ⟨jp, hjp⟩ : ∃ jp, jp = jj + p := ⟨_, rfl⟩
              have hjL : jp < L := by rw [hjp, HLL.out.1]; omega
              obtain ⟨ga, hga⟩ := HQ.out.2.2 (by omega)
              subst hga
              have hown := HP.out.1.att q hql
              rw [HQ.out.2.1, ← HQ.out.1] at hown
              have hge : (ear key q x ++ Pr q)[jp]? = some ((Pr q).getD p 0) := by
                have hl : p < (Pr q).length := by rw [(HI.out.pri q hql).len]; exact hpl
                rw [List.getElem?_append_right (by rw [hjp, HLL.out.2]; omega), show jp - (ear key q x).length = p by rw [hjp, HLL.out.2]; omega]
                simp [hl]
              obtain ⟨d0, d1, d2, d3, d4, d5, d6, d7, d8⟩ := desc_cells (j := jp) hown hge
              have r10 : wr.cell? ⟨gB, 10, none⟩ = some (.slice (some ⟨ga, 0, none⟩) L cq) := by rw [cell_of_row _ _ _ _ _ _ HP.out.2]; rfl
              generalize (Pr q).getD p 0 = y at hcell hxr d3
              have hwj : IntKind.i64.wrap ((jj : Int) + (p : Int)) = (jp : Int) := by rw [i64_in (by omega), hjp]; omega
              have hja : (0 : Int) ≤ (jp : Int) := by omega
              have hjb : (jp : Int) < (L : Int) := by omega
              have hpa : (0 : Int) ≤ (p : Int) := by omega
              have hpb : (p : Int) < (pn q : Int) := by omega
              have hwy : IntKind.i64.wrap y = y := i64_in (by omega)
              clear hown hge hcj hpp HPQ HX8 hjp
              go_wp2_with fail
              go_region_held3 (fun w' => w'.cell? ⟨gB, 10, none⟩ = some (.slice (some ⟨ga, 0, none⟩) L cq) ∧ w'.cell? ⟨b3, o3 + p, none⟩ = some (.int .u16 y) ∧ w'.cell? ⟨ga, jp * 9, none⟩ = some noStr ∧ w'.cell? ⟨ga, jp * 9 + 1, none⟩ = some noStr ∧ w'.cell? ⟨ga, jp * 9 + 2, none⟩ = some noStr ∧ w'.cell? ⟨ga, jp * 9 + 3, none⟩ = some (.int .i64 y) ∧ w'.cell? ⟨ga, jp * 9 + 4, none⟩ = some (.pointer none) ∧ w'.cell? ⟨ga, jp * 9 + 5, none⟩ = some noStr ∧ w'.cell? ⟨ga, jp * 9 + 6, none⟩ = some noStr ∧ w'.cell? ⟨ga, jp * 9 + 7, none⟩ = some noStr ∧ w'.cell? ⟨ga, jp * 9 + 8, none⟩ = some noStr) (go_keep) (first | (go_at_call 6; refine (same_any y _).mono ?_; rintro ee W5 ⟨rfl, hb5⟩; have k0 := keepD hb5 r10; have k1 := keepD hb5 hcell; have k2 := keepD hb5 d0; have k3 := keepD hb5 d1; have k4 := keepD hb5 d2; have k5 := keepD hb5 d3; have k6 := keepD hb5 d4; have k7 := keepD hb5 d5; have k8 := keepD hb5 d6; have k9 := keepD hb5 d7; have k10 := keepD hb5 d8))
              have H5 : Hid (Fin w W5 cb pm i x (.slice (some ⟨gI, 0, none⟩) i cI) (.slice aU U cU) (.slice (some ⟨gK, 0, none⟩) x x) key av Pr (pre ++ ear2 key i x) ∧ W5.heap[gB]? = some (.cells (imgCells q (.slice (some ⟨ga, 0, none⟩) L cq)).toArray 43 (0, 0))) := ⟨HP.out.1.below (belD hb5), (belD hb5).block gB (lt_of_block HP.out.2) ▸ HP.out.2⟩
              clear d0 d1 d2 d3 d4 d5 d6 d7 d8 r10 hb5 HP hcell hwj hwy k0 k1 k2 k3 k4 k5 k6 k7 k8 k9 k10 hja hjb hpa hpb
              go_wp2
              go_roundw
              case rel => exact ⟨p + 1, hpl, by go_num, H5.out⟩
              case measure => simp [intOf]; omega
            · obtain rfl : p = pn q := by omega
              have HFF := hid HP.out.1
              clear HP HX8
              go_wp2
              go_roundw
              case rel => exact ⟨q + 1, hql, by go_num, HFF.out⟩
              case measure => simp [intOf]; omega
    · obtain rfl : q = i := by omega
      have HX9 := HF
      clear HF hq hql
      go_wp2
      go_loopw [29, 30] (fun s t wr => ∃ p : Nat, p ≤ j ∧ t = .int .i64 p ∧ s = .int .i64 p ∧ Hid (Fin w wr cb pm q e (.slice aI q cI) (.slice aU U cU) (.slice (some ⟨gK, 0, none⟩) e e) key av Pr (pre ++ ear2 key q e))) (fun _ t _ => j - (intOf t).toNat)
      case atStart => exact ⟨0, Nat.zero_le _, rfl, rfl, HX9.out⟩
      case round =>
        obtain ⟨p, hp, rfl, rfl, HP⟩ := hrel
        clear HX9
        by_cases hpl : p < j
        · obtain ⟨b1, o1, rfl, hc1⟩ := HI.out.pre.at' (by omega)
          have hcell : wr.cell? ⟨b1, o1 + p, none⟩ = some (.int .u16 (pre.getD p 0)) := cell_in HP.out.bel (hc1 p hpl)
          have hxr := HI.out.pre.get hpl
          have hl : p < pre.length := by rw [HI.out.pre.len]; exact hpl
          have hpU : p < U := by rw [HUU.out, List.length_append]; omega
          obtain ⟨gU, hgU⟩ := HUf.out (by omega)
          subst hgU
          have q2 := HP.out.cell.2.2
          have hown := HP.out.una
          rw [← HUU.out] at hown
          obtain ⟨d0, d1, d2, d3, d4, d5, d6, d7, d8⟩ := desc_cells (j := p) (s := pre.getD p 0) hown (by rw [List.getElem?_append_left hl]; simp [hl])
          generalize pre.getD p 0 = y at hcell hxr d3
          have hgd : decide ((U : Int) ≤ (p : Int)) = false := by simp; omega
          have hgn : ¬ U ≤ p := by omega
          have hja : (0 : Int) ≤ (p : Int) := by omega
          have hjb : (p : Int) < (U : Int) := by omega
          have hpb : (p : Int) < (j : Int) := by omega
          have hwy : IntKind.i64.wrap y = y := i64_in (by omega)
          clear hown hc1 hl
          go_wp2_with fail
          go_region_held3 (fun w' => w'.cell? ⟨cb, 2, none⟩ = some (.slice (some ⟨gU, 0, none⟩) U cU) ∧ w'.cell? ⟨b1, o1 + p, none⟩ = some (.int .u16 y) ∧ w'.cell? ⟨gU, p * 9, none⟩ = some noStr ∧ w'.cell? ⟨gU, p * 9 + 1, none⟩ = some noStr ∧ w'.cell? ⟨gU, p * 9 + 2, none⟩ = some noStr ∧ w'.cell? ⟨gU, p * 9 + 3, none⟩ = some (.int .i64 y) ∧ w'.cell? ⟨gU, p * 9 + 4, none⟩ = some (.pointer none) ∧ w'.cell? ⟨gU, p * 9 + 5, none⟩ = some noStr ∧ w'.cell? ⟨gU, p * 9 + 6, none⟩ = some noStr ∧ w'.cell? ⟨gU, p * 9 + 7, none⟩ = some noStr ∧ w'.cell? ⟨gU, p * 9 + 8, none⟩ = some noStr) (go_keep) (first | (go_at_call 6; refine (same_any y _).mono ?_; rintro ee W5 ⟨rfl, hb5⟩; have k0 := keepD hb5 q2; have k1 := keepD hb5 hcell; have k2 := keepD hb5 d0; have k3 := keepD hb5 d1; have k4 := keepD hb5 d2; have k5 := keepD hb5 d3; have k6 := keepD hb5 d4; have k7 := keepD hb5 d5; have k8 := keepD hb5 d6; have k9 := keepD hb5 d7; have k10 := keepD hb5 d8))
          have H5 := hid (HP.out.below (belD hb5))
          clear d0 d1 d2 d3 d4 d5 d6 d7 d8 q2 hb5 HP hcell hwy k0 k1 k2 k3 k4 k5 k6 k7 k8 k9 k10 hja hjb hpb hgd hgn
          go_wp2
          go_roundw
          case rel => exact ⟨p + 1, hpl, by go_num, by go_num, H5.out⟩
          case measure => simp [intOf]; omega
        · obtain rfl : p = j := by omega
          have HX9 := HP
          clear HP hp hpl
          go_wp2
          go_loopw [29, 31] (fun s t wr => ∃ x : Nat, x ≤ e ∧ t = .int .i64 x ∧ s = .int .i64 ((p + (ear2 key q x).length : Nat) : Int) ∧ Hid (Fin w wr cb pm q e (.slice aI q cI) (.slice aU U cU) (.slice (some ⟨gK, 0, none⟩) e e) key av Pr (pre ++ ear2 key q e))) (fun _ t _ => e - (intOf t).toNat)
          case atStart => exact ⟨0, Nat.zero_le _, rfl, rfl, HX9.out⟩
          case round =>
            obtain ⟨x, hx, rfl, rfl, HX⟩ := hrel
            clear HX9
            have hlx := ear2_len key q x
            by_cases hxl : x < e
            · have hkx := HX.out.key_cell hxl
              have hxa : (0 : Int) ≤ (x : Int) := by omega
              have hxb : (x : Int) < (e : Int) := by omega
              by_cases hk : key x < q
              · have HS : Hid (ear2 key q (x + 1) = ear2 key q x) := by rw [ear2_succ, if_neg (by omega)]; exact rfl
                generalize key x = kx at hkx hk
                have hki : (kx : Int) < (q : Int) := by omega
                have HXX := HX
                clear HX
                go_wp2
                go_roundw
                case rel => exact ⟨x + 1, hxl, by go_num, by rw [HS.out], HXX.out⟩
                case measure => simp [intOf]; omega
              · have hg0 := ear2_get (key := key) (n := q) (x := x) (by omega) e hxl
                obtain ⟨uu, huu⟩ : ∃ uu, uu = p + (ear2 key q x).length := ⟨_, rfl⟩
                have hpl := HI.out.pre.len
                have hge : (pre ++ ear2 key q e)[uu]? = some (1000000 + (x : Int)) := by
                  rw [List.getElem?_append_right (by omega), show uu - pre.length = (ear2 key q x).length by omega]
                  exact hg0
                have hjL : uu < U := by rw [HUU.out]; exact (List.getElem?_eq_some_iff.1 hge).1
                obtain ⟨gU, hgU⟩ := HUf.out (by omega)
                subst hgU
                have q2 := HX.out.cell.2.2
                have hown := HX.out.una
                rw [← HUU.out] at hown
                obtain ⟨d0, d1, d2, d3, d4, d5, d6, d7, d8⟩ := desc_cells (j := uu) hown hge
                have HS : Hid (p + (ear2 key q (x + 1)).length = uu + 1) := by
                  rw [ear2_succ, if_pos (by omega), List.length_append, huu]; exact rfl
                generalize key x = kx at hkx hk
                have hki : ¬ (kx : Int) < (q : Int) := by omega
                rw [← huu]
                have hgd : decide ((U : Int) ≤ (uu : Int)) = false := by simp; omega
                have hgn : ¬ U ≤ uu := by omega
                have hja : (0 : Int) ≤ (uu : Int) := by omega
                have hjb : (uu : Int) < (U : Int) := by omega
                have hwe : IntKind.i64.wrap (1000000 + (x : Int)) = 1000000 + (x : Int) := i64_in (by omega)
                clear hown hg0 huu hge hpl hlx
                go_wp2_with (first | (go_at_call 6; refine (same_any _ _).mono ?_; rintro ee W5 ⟨rfl, hb5⟩))
                have H5 := hid (HX.out.below hb5)
                clear d0 d1 d2 d3 d4 d5 d6 d7 d8 q2 hb5 HX hkx hgd hwe
                go_roundw
                case rel => exact ⟨x + 1, hxl, by go_num, by rw [HS.out]; go_num, H5.out⟩
                case measure => simp [intOf]; omega
            · obtain rfl : x = e := by omega
              have hUe : p + (ear2 key q x).length = U := by rw [HUU.out, List.length_append, HI.out.pre.len]
              rw [hUe]
              have q2 := HX.out.cell.2.2
              have HB := hid HX.out.bel
              clear HX hlx hUe
              go_wp2
              go_ret
              exact ⟨rfl, HB.out⟩
end Go.Proofs.Ybulkczwi
