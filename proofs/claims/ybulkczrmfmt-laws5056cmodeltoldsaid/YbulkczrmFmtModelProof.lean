import Derived.Test.YbulkczrmFmtLaw
import Derived.Test.YbulkczrmFmtOpen
namespace Go.Proofs.YbulkczrmFmt
open Go.ChangeShapes Go.WideShapes Go.ChangeAt Go.RowKit Go.Extern.Stop Go.Stop Go.Extern
open Go.ChangeMaps (open_string shut_string)
set_option linter.unusedVariables false
set_option linter.unusedSimpArgs false

abbrev mSpec : OpenSpec := OpenSpec.ofChange Rows.lawS5056CModelSpec
abbrev mArgs : Array Value := #[.slice none 0 0, .bool false, .bool false, .bool false, .int .u8 0, .int .u8 0]

theorem m_witness_row (os : Os) {H : Type} (enc : TypeId × Value → H) :
    mSpec.preRow enc Ybaf.prog Ybaf.f3 Rows.lawS5056CModelRow.domain false Rows.lawS5056CModelRow.laid ((World.doorLaid Ybaf.prog 16 os).forCall (fun _ _ => 0) ⟨#[], mArgs, []⟩).memory mArgs := by
  have hw : (DataW.whole enc Ybaf.prog ((World.doorLaid Ybaf.prog 16 os).forCall (fun _ _ => 0) ⟨#[], mArgs, []⟩).memory Ybaf.f3.params.toList mSpec.vars false mArgs.toList 8).map (fun x => (x.1, x.2.1)) =
      some ([.nil, .lit (.bool false), .lit (.bool false), .lit (.bool false), .lit (.int .u8 0), .lit (.int .u8 0)], [Rows.laid_example_com_broadleaf_broadleaf_pageKinds]) := by kernel_rfl
  obtain ⟨⟨x1, x2, x3⟩, hx, hx1⟩ := Option.map_eq_some_iff.1 hw
  simp only [Prod.mk.injEq] at hx1
  obtain ⟨rfl, rfl⟩ := hx1
  exact OpenSpec.preRow_of_cond 8 hx (by kernel_rfl) (fun k hk => by cases hk) (by kernel_rfl) (kdoor_met os _)

set_option maxRecDepth 100000 in
set_option maxHeartbeats 4000000 in
theorem model_lifted (os : Os) (started : os.Started) (H : Type) (enc : TypeId × Value → H) :
    ReturnsInTold none {} Ybaf.checked os 3 .any Input.okWide (mSpec.preRow enc Ybaf.prog Ybaf.f3 Rows.lawS5056CModelRow.domain false Rows.lawS5056CModelRow.laid) (fun F => (mSpec.at F).post enc Ybaf.prog Ybaf.f3 false true false false) (aloneAtReturn Ybaf.prog) nothingAlways := by
  refine returnsInTold_of_row (C := Ybaf.checked) (s := mSpec) (by kernel_rfl) bown started (by kernel_rfl) Ybaf.func3
    (OpenSpec.witness_stopped_atRef (enc := enc) (C := Ybaf.checked) false (World.doorLaid Ybaf.prog 16 os) mArgs rfl (by kernel_rfl) (by kernel_rfl) (by kernel_rfl) (m_witness_row os enc)) ?_
  intro F W base args ds gs before _ hF hval0 hW _ _ _ hL0 _
  have hL : laidMetH Ybaf.prog laidK W := hL0
  have hval : ∀ (j : Nat) t v, Ybaf.f3.params[j]? = some t → args[j]? = some v → Value.okWide Ybaf.prog W .any base t v := hval0
  have hW' := hW
  obtain ⟨p, q, hA0, hV0, rfl, hfz, hnd⟩ := hW
  have hA : DataW.TrodAll enc Ybaf.prog W 0 (fun _ => true) true Ybaf.f3.params.toList args.toList ds p := hA0
  have hV : DataW.TrodVars enc Ybaf.prog W (fun _ => true) [kindsName] gs q := hV0
  rw [Ybaf.params3] at hA hval
  obtain ⟨v0, vs0, d0, ds0, p0, q0, hargs, rfl, rfl, h0, r0⟩ := trodAll_cons hA
  obtain ⟨v1, vs1, d1, ds1, p1, q1, rfl, rfl, rfl, h1, r1⟩ := trodAll_cons r0
  obtain ⟨v2, vs2, d2, ds2, p2, q2, rfl, rfl, rfl, h2, r2⟩ := trodAll_cons r1
  obtain ⟨v3, vs3, d3, ds3, p3, q3, rfl, rfl, rfl, h3, r3⟩ := trodAll_cons r2
  obtain ⟨v4, vs4, d4, ds4, p4, q4, rfl, rfl, rfl, h4, r4⟩ := trodAll_cons r3
  obtain ⟨v5, vs5, d5, ds5, p5, q5, rfl, rfl, rfl, h5, r5⟩ := trodAll_cons r4
  obtain ⟨rfl, rfl, rfl⟩ := trodAll_nil r5
  obtain rfl : args = #[v0, v1, v2, v3, v4, v5] := by cases args; simp_all
  obtain ⟨gi, ti, csK, fK, dK, pK, rfl, hgK, htK, hvK, hdK, rfl⟩ := trodVars_one hV
  obtain rfl := Option.some.inj (gKinds.symm.trans hgK)
  obtain rfl := Option.some.inj (tKinds.symm.trans htK)
  have hkk := kinds_of_laid hL
  have h3lt : 0 < W.heap.size := World.block_lt_of_cell? W _ hkk.leaf
  obtain ⟨a0, len0, cap0, rfl⟩ := okWide_slice Ybaf.underlying22 (hval 0 22 v0 rfl rfl)
  obtain ⟨b1, rfl, rfl, rfl⟩ := open_bool Ybaf.underlying4 (hval 1 4 v1 rfl rfl) h1
  obtain ⟨b2, rfl, rfl, rfl⟩ := open_bool Ybaf.underlying4 (hval 2 4 v2 rfl rfl) h2
  obtain ⟨b3, rfl, rfl, rfl⟩ := open_bool Ybaf.underlying4 (hval 3 4 v3 rfl rfl) h3
  obtain ⟨a4, rfl, rfl, rfl, w4⟩ := open_int Ybaf.underlying5 (hval 4 5 v4 rfl rfl) h4
  obtain ⟨a5, rfl, rfl, rfl, w5⟩ := open_int Ybaf.underlying5 (hval 5 5 v5 rfl rfl) h5
  have k0 := h0
  have kv : DataW.Trod enc Ybaf.prog W 0 (fun _ => true) true 46 (.agg csK) dK pK := ⟨fK, by simpa [Value.cells] using hdK⟩
  have lt0 : ∀ x ∈ p0, x.block < W.heap.size := by obtain ⟨m, hm⟩ := k0; exact DataW.trod_lt m _ _ _ hm
  have ltv : ∀ x ∈ pK, x.block < W.heap.size := by obtain ⟨m, hm⟩ := kv; exact DataW.trod_lt m _ _ _ hm
  obtain ⟨n0, hf0⟩ := h0
  obtain ⟨KP, KN, KC, kbs, hK, hKN, hKB⟩ := keys_of (by simpa [Value.cells] using hf0)
  clear hA0 hV0 hval0
  have walk : Calls Ybaf.prog 3 #[.slice a0 len0 cap0, .bool b1, .bool b2, .bool b3, .int .u8 a4, .int .u8 a5] W fun e w' => e = .returned (.bool true) ∧ Below W.heap.size W w' := by
    have l4 := bounds_u8 w4
    have l5 := bounds_u8 w5
    obtain ⟨n4, rfl⟩ : ∃ n : Nat, a4 = (n : Int) := ⟨a4.toNat, by omega⟩
    obtain ⟨n5, rfl⟩ : ∃ n : Nat, a5 = (n : Int) := ⟨a5.toNat, by omega⟩
    exact model_law F.told a0 len0 cap0 n4 n5 b1 b2 b3 KP KN KC kbs W ⟨hK, hKN, hKB, hkk, hF⟩ (by omega) (by omega)
  refine walk.mono fun e W' ⟨he, bel⟩ => ?_
  subst he
  obtain ⟨fK', hdK'⟩ := Below.trod blaidOut (by kernel_rfl) (of_decide_eq_true (by kernel_rfl)) kv bel ltv
  have hv' := trodVars_mk1 (enc := enc) (spare := fun b => decide (b < W.heap.size)) gKinds tKinds (var?_below bel gKinds h3lt hvK) (by simpa [Value.cells] using hdK')
  exact ⟨_, rfl, _, _, _, [], _, _, hW', trodAll_mk1 (shut_bool Ybaf.underlying4 _), (trodAll_cons_mk (Below.trod blaidOut (by kernel_rfl) (of_decide_eq_true (by kernel_rfl)) k0 bel lt0) (trodAll_cons_mk (shut_bool Ybaf.underlying4 _) (trodAll_cons_mk (shut_bool Ybaf.underlying4 _) (trodAll_cons_mk (shut_bool Ybaf.underlying4 _) (trodAll_cons_mk (shut_int Ybaf.underlying5 w4) (trodAll_cons_mk (shut_int Ybaf.underlying5 w5) trodAll_mk0)))))),
    hv', bel.frame _, fun h => by cases h⟩

theorem fStops : Ybaf.pinned.checked.prog.stops = ["fmt.errorf"] := by kernel_rfl
theorem fStopKnobs : Ybaf.pinned.checked.prog.stopKnobs = [] := by kernel_rfl
theorem fQuiet (os : Os) : Stop.quiet Ybaf.pinned.checked.prog os := by
  intro k hk
  rw [fStopKnobs] at hk
  cases hk

theorem model_told : Rows.LawS5056CModelToldSaid :=
  Claim7.holds_of_told_tied_any_at .later 3 Ybaf.f3 "fmt.errorf" [] [] _ _ _ _ _ (by kernel_rfl) rfl rfl rfl blaidOut (by kernel_rfl) rfl ⟨rfl, rfl, rfl, rfl, rfl, rfl, rfl⟩ rfl rfl (by kernel_rfl) (by kernel_rfl) Ybaf.func3 (by kernel_rfl)
    (of_decide_eq_true (by kernel_rfl)) (of_decide_eq_true (by kernel_rfl)) fStops.symm rfl fStopKnobs.symm (by kernel_rfl)
    (by kernel_rfl) (by kernel_rfl) (by kernel_rfl) (by kernel_rfl) (by kernel_rfl) (by kernel_rfl) (by kernel_rfl) (by kernel_rfl) (by kernel_rfl) rfl (by kernel_rfl) rfl rfl
    rfl rfl
    rfl (by kernel_rfl) (by kernel_rfl) (by kernel_rfl) (by decide) (by kernel_rfl) lawS5056CModel_row_tie
    (OpenClaim.moreEntering_of (by kernel_rfl) (by kernel_rfl) (by kernel_rfl) (by kernel_rfl) (by kernel_rfl) (by kernel_rfl) (by kernel_rfl) (by kernel_rfl) (by kernel_rfl) (by kernel_rfl))
    ⟨_, WideRow.started_initial, fQuiet _⟩
    (fun os started _ H enc _ => model_lifted os started H enc)

#print axioms model_told
end Go.Proofs.YbulkczrmFmt
