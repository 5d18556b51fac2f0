import Derived.Test.YbulkczrmDoorLaw
import Derived.Test.YbulkczrmDoorTie
import Derived.Test.YbulkczrmDoorCards
import Derived.SevenTiedAt
import Derived.ProofKit
import Derived.LaidMore
import Derived.OpenShut
import Derived.ShutString
import Derived.ChangeOld
import Derived.Stop.Joined
import Derived.Lib.SmallJoins
import Derived.Deep.Matrix
namespace Go.Proofs.YbulkczrmDoor
open Go.ChangeShapes Go.WideShapes Go.ChangeAt Go.RowKit
open Go.ChangeMaps (open_string shut_string)
set_option linter.unusedVariables false

theorem bown : ownKnob Ybad.prog.godebug = none := by kernel_rfl
theorem blaidOut : laidOutB Ybad.prog = true := by kernel_rfl
abbrev kindsName : String := Rows.lawS5056BBelowSpec.vars.headD ""
theorem gKinds : Ybad.prog.globalNamed kindsName = some 3 := by kernel_rfl
theorem tKinds : (Ybad.prog.globals[3]?).map (·.type) = some 93 := by kernel_rfl
abbrev laidK : List (String × DataW Unit) := [(kindsName, Rows.laid_example_com_broadleaf_broadleaf_pageKinds)]

theorem bdoor_met (os : Os) (args : Array Value) : laidMetH Ybad.prog laidK ((World.doorLaid Ybad.prog 54 os).forCall (fun _ _ => 0) ⟨#[], args, []⟩).memory :=
  laidMetH_of_parts3 (fuel := 8) (laidMet_of_run' 8 (by kernel_rfl) (by kernel_rfl)) (by kernel_rfl) (by kernel_rfl)

theorem cells92 : Ybad.prog.cellsOf 92 = 4 := by kernel_rfl
theorem cells3 : Ybad.prog.cellsOf 3 = 1 := by kernel_rfl

set_option maxRecDepth 100000 in
/-- WHAT THE CONDITION GIVES THE WALK: the header's size of an internal page. -/
theorem kinds_of_laid {W : World} (h : laidMetH Ybad.prog laidK W) : W.cell? ⟨3, 11, none⟩ = some (.int .i64 6) := by
  rw [MakeChecks.laidMetH_plain _ _ _ (by kernel_rfl)] at h
  obtain ⟨ps, ⟨g0, t0, cs0, f0, p0, q0, hg0, ht0, hv0, hd0, _, _⟩, _, _⟩ := h
  obtain rfl := Option.some.inj (gKinds.symm.trans hg0)
  obtain rfl := Option.some.inj (tKinds.symm.trans ht0)
  obtain ⟨xs, m1, rfl, hx1, hlen, hn3, hel⟩ := DataW.trod_array Ybad.underlying93 hd0
  have h2 := hel 2 (by decide)
  simp only [Prod.mk.injEq] at hx1
  match xs, hn3, hx1, h2 with
  | [x0, x1, x2], _, hx1, h2 =>
    obtain ⟨y0, y1, y2, y3, n, hy, hl, _, _, _, hy3⟩ := Joins.trod_struct4 Ybad.underlying92 (show DataW.trod _ Ybad.prog W 0 _ false m1 92 _ = some x2 from h2)
    obtain ⟨k, e1, e2, _⟩ := DataW.trod_int Ybad.underlying3 hy3
    have hk : k = 6 := by
      have e := hx1.1
      simp only [Rows.laid_example_com_broadleaf_broadleaf_pageKinds, List.map_cons, List.map_nil, DataW.agg.injEq, List.cons.injEq] at e
      have e' := e.2.2.1
      rw [hy] at e'
      simp only [DataW.agg.injEq, List.cons.injEq] at e'
      have e'' := e'.2.2.2.1
      rw [e2] at e''
      simpa using e''.symm
    subst hk
    refine (World.var?_cell gKinds hv0 11).trans ?_
    rw [cells92, cells3] at e1
    obtain ⟨l⟩ := cs0
    have e3 : l[11]? = some (.int .i64 6) := by
      have := congrArg (fun z => z[0]?) e1
      simpa [List.getElem?_take, List.getElem?_drop] using this
    simpa using e3

theorem bnat_of_u64 {a : Int} (h : (Lit.int .u64 a).wf = true) : ∃ n : Nat, a = (n : Int) := by
  have := bounds_u64 h
  exact ⟨a.toNat, by omega⟩

/-- A slice of bytes that came in. -/
theorem bin_of {H : Type} {enc : TypeId × Value → H} {W : World} {fuel : Nat} {a : Option Addr} {len cap : Nat} {x : DataW H × List MemPlace} (hf : DataW.trod enc Ybad.prog W 0 (fun _ => true) true fuel 23 [.slice a len cap] = some x) : ∃ xs, BIn W a len xs := by
  rcases open_ints Ybad.underlying23 Ybad.underlying5 (by kernel_rfl) hf with ⟨hcs, _⟩ | ⟨y, l, c, zs, hcs, _, hl, hm, hz, _, hcell, hwz⟩
  · simp at hcs
    obtain ⟨rfl, rfl, rfl⟩ := hcs
    exact ⟨[], rfl, fun h => absurd h (Nat.lt_irrefl _)⟩
  · simp at hcs
    obtain ⟨rfl, rfl, rfl⟩ := hcs
    simp only [if_true] at hz
    refine ⟨zs.take len, by simp; omega, fun h => ?_⟩
    obtain ⟨b, o, rfl, hc⟩ := ints_at hcell (by omega)
    refine ⟨b, o, rfl, fun j hj => ?_⟩
    rw [hc j (by omega)]
    simp [hj]

theorem chin_of {H : Type} {enc : TypeId × Value → H} {W : World} {fuel : Nat} {a : Option Addr} {len cap : Nat} {x : DataW H × List MemPlace} (hf : DataW.trod enc Ybad.prog W 0 (fun _ => true) true fuel 65 [.slice a len cap] = some x) : ∃ xs, ChIn W a len xs := by
  rcases open_ints Ybad.underlying65 Ybad.underlying24 (by kernel_rfl) hf with ⟨hcs, _⟩ | ⟨y, l, c, zs, hcs, _, hl, hm, hz, _, hcell, hwz⟩
  · simp at hcs
    obtain ⟨rfl, rfl, rfl⟩ := hcs
    exact ⟨[], fun h => absurd h (Nat.lt_irrefl _), fun i h => absurd h (Nat.not_lt_zero _), Nat.zero_le _⟩
  · simp at hcs
    obtain ⟨rfl, rfl, rfl⟩ := hcs
    simp only [if_true] at hz
    unfold maxLen at hm
    refine ⟨zs, fun h => ?_, fun i hi => ?_, by omega⟩
    · obtain ⟨b, o, rfl, hc⟩ := ints_at hcell (by omega)
      exact ⟨b, o, rfl, fun j hj => hc j (by omega)⟩
    · have hi' : i < zs.length := by omega
      have hm' : zs.getD i 0 ∈ zs := by
        have e : zs.getD i 0 = zs[i] := by simp [hi']
        rw [e]; exact List.getElem_mem hi'
      have := bounds_u32 (hwz _ hm')
      omega

theorem keys_of {H : Type} {enc : TypeId × Value → H} {W : World} {fuel : Nat} {a : Option Addr} {len cap : Nat} {x : DataW H × List MemPlace} (hf : DataW.trod enc Ybad.prog W 0 (fun _ => true) true fuel 64 [.slice a len cap] = some x) :
    ∃ P N C kbs, KeysIn W a len P N C kbs ∧ ∀ i, i < len → N i ≤ 9223372036854775807 := by
  rcases Deep.open_int_rows Ybad.underlying64 Ybad.underlying23 Ybad.underlying5 (by kernel_rfl) (by kernel_rfl) hf with ⟨hcs, _⟩ | ⟨y, l, c, A, L, C, Z, hcs, _, hl, hm, _, hr⟩
  · simp at hcs
    obtain ⟨rfl, rfl, rfl⟩ := hcs
    exact ⟨fun _ => none, fun _ => 0, fun _ => 0, fun _ => [], ⟨fun h => absurd h (Nat.lt_irrefl _), fun i h => absurd h (Nat.not_lt_zero _)⟩, fun i h => absurd h (Nat.not_lt_zero _)⟩
  · simp at hcs
    obtain ⟨rfl, rfl, rfl⟩ := hcs
    refine ⟨A, L, C, fun r => (Z r).take (L r), ⟨fun h => ?_, fun i hi => ?_⟩, fun i hi => ?_⟩
    · obtain ⟨b, off, spot⟩ := y
      have hspot : spot = none := by simpa [Addr.add] using World.cell?_spot (hr 0 (by omega)).1
      subst hspot
      exact ⟨b, off, rfl, fun i hi => by rw [← Addr.add_lit]; exact (hr i (by omega)).1⟩
    · obtain ⟨h1, h2, h3, h4, h5, h6, h7⟩ := hr i (by omega)
      refine ⟨by simp; omega, fun h0 => ?_⟩
      cases hA : A i with
      | none => have := h6 hA; omega
      | some a' =>
        obtain ⟨_, hc⟩ := h7 a' hA
        have hc' : ∀ j, j < (Z i).length → W.cell? (a'.add j) = some (.int .u8 ((Z i).getD j 0)) := fun j hj => hc j (by omega)
        obtain ⟨b, o, rfl, hh⟩ := ints_at hc' (by omega)
        refine ⟨b, o, rfl, fun j hj => ?_⟩
        rw [hh j (by omega)]
        simp [hj]
    · obtain ⟨h1, h2, h3, h4, h5, h6, h7⟩ := hr i (by omega)
      unfold maxLen at h3
      omega

set_option maxRecDepth 100000 in
theorem below_lifted (os : Os) (started : os.Started) (H : Type) (enc : TypeId × Value → H) :
    ReturnsInHanded {} Ybad.checked os 5 .any (fun w args => (Rows.lawS5056BBelowSpec.pre enc Ybad.prog Ybad.f5 [] false w args ∧ laidMetH Ybad.prog laidK w) ∧ sizedMet enc Ybad.prog Ybad.f5 (OpenSpec.ofChange Rows.lawS5056BBelowSpec) false w args)
      (Rows.lawS5056BBelowSpec.post enc Ybad.prog Ybad.f5 false true false false) := by
  refine returnsInHanded_of_change_and (C := Ybad.checked) (X := fun w _ => laidMetH Ybad.prog laidK w) (fun _ _ _ hh h => h.of_heap hh) bown started (by kernel_rfl) Ybad.func5
    (ChangeSpec.witness_shaped (enc := enc) (C := Ybad.checked) (os := os) (X := fun w _ => laidMetH Ybad.prog laidK w) false (World.doorLaid Ybad.prog 54 os) #[.slice none 0 0, .slice none 0 0, .int .u64 0, .slice none 0 0, .slice none 0 0, .int .u32 0, .int .u32 0] 8 rfl (World.shaped_of_RefB (by kernel_rfl) (by kernel_rfl)) (by kernel_rfl) (by kernel_rfl) (by kernel_rfl) (bdoor_met os _)) ?_
  intro W base args ds gs before hval0 hW _ _ hL _
  have hval : ∀ (j : Nat) t v, Ybad.f5.params[j]? = some t → args[j]? = some v → Value.okWide Ybad.prog W .any base t v := hval0
  have hW' := hW
  obtain ⟨p, q, hA0, hV0, rfl, hfz, hnd⟩ := hW
  have hA : DataW.TrodAll enc Ybad.prog W 0 (fun _ => true) true Ybad.f5.params.toList args.toList ds p := hA0
  have hV : DataW.TrodVars enc Ybad.prog W (fun _ => true) [kindsName] gs q := hV0
  rw [Ybad.params5] at hA hval
  obtain ⟨v0, vs0, d0, ds0, p0, q0, hargs, rfl, rfl, h0, r0⟩ := trodAll_cons hA
  obtain ⟨v1, vs1, d1, ds1, p1, q1, rfl, rfl, rfl, h1, r1⟩ := trodAll_cons r0
  obtain ⟨v2, vs2, d2, ds2, p2, q2, rfl, rfl, rfl, h2, r2⟩ := trodAll_cons r1
  obtain ⟨v3, vs3, d3, ds3, p3, q3, rfl, rfl, rfl, h3, r3⟩ := trodAll_cons r2
  obtain ⟨v4, vs4, d4, ds4, p4, q4, rfl, rfl, rfl, h4, r4⟩ := trodAll_cons r3
  obtain ⟨v5, vs5, d5, ds5, p5, q5, rfl, rfl, rfl, h5, r5⟩ := trodAll_cons r4
  obtain ⟨v6, vs6, d6, ds6, p6, q6, rfl, rfl, rfl, h6, r6⟩ := trodAll_cons r5
  obtain ⟨rfl, rfl, rfl⟩ := trodAll_nil r6
  obtain rfl : args = #[v0, v1, v2, v3, v4, v5, v6] := by cases args; simp_all
  obtain ⟨gi, ti, csK, fK, dK, pK, rfl, hgK, htK, hvK, hdK, rfl⟩ := trodVars_one hV
  obtain rfl := Option.some.inj (gKinds.symm.trans hgK)
  obtain rfl := Option.some.inj (tKinds.symm.trans htK)
  have hkk := kinds_of_laid hL
  have h3lt : 3 < W.heap.size := World.block_lt_of_cell? W _ hkk
  obtain ⟨a0, len0, cap0, rfl⟩ := okWide_slice Ybad.underlying64 (hval 0 64 v0 rfl rfl)
  obtain ⟨a1, len1, cap1, rfl⟩ := okWide_slice Ybad.underlying65 (hval 1 65 v1 rfl rfl)
  obtain ⟨a2, rfl, rfl, rfl, w2⟩ := open_int Ybad.underlying66 (hval 2 66 v2 rfl rfl) h2
  obtain ⟨a3, len3, cap3, rfl⟩ := okWide_slice Ybad.underlying23 (hval 3 23 v3 rfl rfl)
  obtain ⟨a4, len4, cap4, rfl⟩ := okWide_slice Ybad.underlying23 (hval 4 23 v4 rfl rfl)
  obtain ⟨a5, rfl, rfl, rfl, w5⟩ := open_int Ybad.underlying24 (hval 5 24 v5 rfl rfl) h5
  obtain ⟨a6, rfl, rfl, rfl, w6⟩ := open_int Ybad.underlying24 (hval 6 24 v6 rfl rfl) h6
  have k0 := h0
  have k1 := h1
  have k3 := h3
  have k4 := h4
  have kv : DataW.Trod enc Ybad.prog W 0 (fun _ => true) true 93 (.agg csK) dK pK := ⟨fK, by simpa [Value.cells] using hdK⟩
  have lt0 : ∀ x ∈ p0, x.block < W.heap.size := by obtain ⟨m, hm⟩ := k0; exact DataW.trod_lt m _ _ _ hm
  have lt1 : ∀ x ∈ p1, x.block < W.heap.size := by obtain ⟨m, hm⟩ := k1; exact DataW.trod_lt m _ _ _ hm
  have lt3 : ∀ x ∈ p3, x.block < W.heap.size := by obtain ⟨m, hm⟩ := k3; exact DataW.trod_lt m _ _ _ hm
  have lt4 : ∀ x ∈ p4, x.block < W.heap.size := by obtain ⟨m, hm⟩ := k4; exact DataW.trod_lt m _ _ _ hm
  have ltv : ∀ x ∈ pK, x.block < W.heap.size := by obtain ⟨m, hm⟩ := kv; exact DataW.trod_lt m _ _ _ hm
  obtain ⟨n0, hf0⟩ := h0
  obtain ⟨n1, hf1⟩ := h1
  obtain ⟨n3, hf3⟩ := h3
  obtain ⟨n4, hf4⟩ := h4
  obtain ⟨KP, KN, KC, kbs, hK, hKN⟩ := keys_of (by simpa [Value.cells] using hf0)
  obtain ⟨zs, hC⟩ := chin_of (by simpa [Value.cells] using hf1)
  obtain ⟨xs3, b3⟩ := bin_of (by simpa [Value.cells] using hf3)
  obtain ⟨xs4, b4⟩ := bin_of (by simpa [Value.cells] using hf4)
  clear hA0 hV0 hval0
  have walk : Calls Ybad.prog 5 #[.slice a0 len0 cap0, .slice a1 len1 cap1, .int .u64 a2, .slice a3 len3 cap3, .slice a4 len4 cap4, .int .u32 a5, .int .u32 a6] W fun e w' => e = .returned (.bool true) ∧ Below W.heap.size W w' := by
    obtain ⟨s, rfl⟩ := bnat_of_u64 w2
    by_cases hlen : 300 < len0
    · exact law_long a0 len0 cap0 _ _ _ _ _ _ W hlen
    · exact law_any a0 len0 cap0 _ KP KN KC kbs a1 len1 cap1 zs s a3 a4 len3 cap3 len4 cap4 xs3 xs4 a5 a6 W hK hC b3 b4 hkk (by omega) rfl hKN
  refine walk.mono fun e W' ⟨he, bel⟩ => ?_
  subst he
  obtain ⟨fK', hdK'⟩ := Below.trod blaidOut (by kernel_rfl) (of_decide_eq_true (by kernel_rfl)) kv bel ltv
  have hv' := trodVars_mk1 (enc := enc) (spare := fun b => decide (b < W.heap.size)) gKinds tKinds (var?_below bel gKinds h3lt hvK) (by simpa [Value.cells] using hdK')
  exact ⟨_, rfl, _, _, _, [], _, _, hW', trodAll_mk1 (shut_bool Ybad.underlying4 _), (trodAll_cons_mk (Below.trod blaidOut (by kernel_rfl) (of_decide_eq_true (by kernel_rfl)) k0 bel lt0) (trodAll_cons_mk (Below.trod blaidOut (by kernel_rfl) (of_decide_eq_true (by kernel_rfl)) k1 bel lt1) (trodAll_cons_mk (shut_int Ybad.underlying66 w2) (trodAll_cons_mk (Below.trod blaidOut (by kernel_rfl) (of_decide_eq_true (by kernel_rfl)) k3 bel lt3) (trodAll_cons_mk (Below.trod blaidOut (by kernel_rfl) (of_decide_eq_true (by kernel_rfl)) k4 bel lt4) (trodAll_cons_mk (shut_int Ybad.underlying24 w5) (trodAll_cons_mk (shut_int Ybad.underlying24 w6) trodAll_mk0))))))),
    hv', bel.frame _, fun h => by cases h⟩

theorem below_holds : Rows.LawS5056BBelowSaid :=
  OpenClaim.holds_of_wide 5 Ybad.f5 rfl rfl rfl rfl rfl rfl rfl ⟨rfl, rfl, rfl, rfl, rfl⟩ rfl rfl rfl rfl rfl (by kernel_rfl) Ybad.func5 (by kernel_rfl)
    (of_decide_eq_true (by kernel_rfl)) (by unfold Func.isWrapper; first | (rw [if_pos (by decide +kernel)]; kernel_rfl) | (rw [if_neg (by decide +kernel)]; exact ⟨rfl, rfl⟩))
    (fun os started H enc _ => below_lifted os started H enc)

theorem below_card : Rows.LawS5056BBelowCardSaid :=
  Claim7.holds_tied_plain_at .later [] [.data] true (true, "8a1ea01bb0a1fc4a89863cccdad7cef72bbaf38109a01878569ec997909e1a84") true
    below_holds (fun _ h => by cases h) (by kernel_rfl) (fun _ h => by cases h) lawS5056BBelow_row_tie rfl ⟨rfl, rfl⟩ (by kernel_rfl) rfl
    (fun f fn hf hfn => by
      obtain rfl : f = 5 := Option.some.inj ((show Ybad.prog.funcNamed Rows.lawS5056BBelowRow.func = some 5 by kernel_rfl).symm.trans hf) |>.symm
      obtain rfl : fn = Ybad.f5 := (Option.some.inj (Ybad.func5.symm.trans hfn)).symm
      exact ⟨by kernel_rfl, fun j t ht => by
        rw [Ybad.params5] at ht
        have hm : t ∈ [64, 65, 66, 23, 23, 24, 24] := by simpa using Array.mem_of_getElem? ht
        have hall : ([64, 65, 66, 23, 23, 24, 24].all fun u => !Ybad.prog.wantsStandIn u) = true := by kernel_rfl
        exact (show Ybad.prog.wantsStandIn t = false by simpa using List.all_eq_true.1 hall t hm)⟩)
    (by kernel_rfl)
#print axioms below_card
end Go.Proofs.YbulkczrmDoor
