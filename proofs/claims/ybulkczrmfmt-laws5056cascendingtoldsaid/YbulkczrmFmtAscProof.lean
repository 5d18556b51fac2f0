import Derived.Test.YbulkczrmFmtAscLaw
import Derived.Test.YbulkczrmFmtOpen
namespace Go.Proofs.YbulkczrmFmt
open Go.ChangeShapes Go.WideShapes Go.ChangeAt Go.RowKit Go.Extern.Stop Go.Stop Go.Extern
open Go.ChangeMaps (open_string shut_string)
set_option linter.unusedVariables false
set_option linter.unusedSimpArgs false

abbrev aSpec : OpenSpec := OpenSpec.ofChange Rows.lawS5056CAscendingSpec
abbrev aArgs : Array Value := #[.slice none 0 0, .bool false]

theorem a_witness_row (os : Os) {H : Type} (enc : TypeId × Value → H) :
    aSpec.preRow enc Ybaf.prog Ybaf.f4 Rows.lawS5056CAscendingRow.domain false Rows.lawS5056CAscendingRow.laid ((World.doorLaid Ybaf.prog 16 os).forCall (fun _ _ => 0) ⟨#[], aArgs, []⟩).memory aArgs := by
  have hw : (DataW.whole enc Ybaf.prog ((World.doorLaid Ybaf.prog 16 os).forCall (fun _ _ => 0) ⟨#[], aArgs, []⟩).memory Ybaf.f4.params.toList aSpec.vars false aArgs.toList 8).map (fun x => (x.1, x.2.1)) =
      some ([.nil, .lit (.bool false)], [Rows.laid_example_com_broadleaf_broadleaf_pageKinds]) := by kernel_rfl
  obtain ⟨⟨x1, x2, x3⟩, hx, hx1⟩ := Option.map_eq_some_iff.1 hw
  simp only [Prod.mk.injEq] at hx1
  obtain ⟨rfl, rfl⟩ := hx1
  exact OpenSpec.preRow_of_cond 8 hx (by kernel_rfl) (fun k hk => by cases hk) (by kernel_rfl) (kdoor_met os _)

set_option maxRecDepth 100000 in
set_option maxHeartbeats 4000000 in
theorem asc_lifted (os : Os) (started : os.Started) (H : Type) (enc : TypeId × Value → H) :
    ReturnsInTold none {} Ybaf.checked os 4 .any Input.okWide (aSpec.preRow enc Ybaf.prog Ybaf.f4 Rows.lawS5056CAscendingRow.domain false Rows.lawS5056CAscendingRow.laid) (fun F => (aSpec.at F).post enc Ybaf.prog Ybaf.f4 false true false false) (aloneAtReturn Ybaf.prog) nothingAlways := by
  refine returnsInTold_of_row (C := Ybaf.checked) (s := aSpec) (by kernel_rfl) bown started (by kernel_rfl) Ybaf.func4
    (OpenSpec.witness_stopped_atRef (enc := enc) (C := Ybaf.checked) false (World.doorLaid Ybaf.prog 16 os) aArgs rfl (by kernel_rfl) (by kernel_rfl) (by kernel_rfl) (a_witness_row os enc)) ?_
  intro F W base args ds gs before _ hF hval0 hW _ _ _ hL0 _
  have hL : laidMetH Ybaf.prog laidK W := hL0
  have hval : ∀ (j : Nat) t v, Ybaf.f4.params[j]? = some t → args[j]? = some v → Value.okWide Ybaf.prog W .any base t v := hval0
  have hW' := hW
  obtain ⟨p, q, hA0, hV0, rfl, hfz, hnd⟩ := hW
  have hA : DataW.TrodAll enc Ybaf.prog W 0 (fun _ => true) true Ybaf.f4.params.toList args.toList ds p := hA0
  have hV : DataW.TrodVars enc Ybaf.prog W (fun _ => true) [kindsName] gs q := hV0
  rw [Ybaf.params4] at hA hval
  obtain ⟨v0, vs0, d0, ds0, p0, q0, hargs, rfl, rfl, h0, r0⟩ := trodAll_cons hA
  obtain ⟨v1, vs1, d1, ds1, p1, q1, rfl, rfl, rfl, h1, r1⟩ := trodAll_cons r0
  obtain ⟨rfl, rfl, rfl⟩ := trodAll_nil r1
  obtain rfl : args = #[v0, v1] := by cases args; simp_all
  obtain ⟨gi, ti, csK, fK, dK, pK, rfl, hgK, htK, hvK, hdK, rfl⟩ := trodVars_one hV
  obtain rfl := Option.some.inj (gKinds.symm.trans hgK)
  obtain rfl := Option.some.inj (tKinds.symm.trans htK)
  have hkk := kinds_of_laid hL
  have h3lt : 0 < W.heap.size := World.block_lt_of_cell? W _ hkk.leaf
  obtain ⟨a0, len0, cap0, rfl⟩ := okWide_slice Ybaf.underlying22 (hval 0 22 v0 rfl rfl)
  obtain ⟨b1, rfl, rfl, rfl⟩ := open_bool Ybaf.underlying4 (hval 1 4 v1 rfl rfl) h1
  have k0 := h0
  have kv : DataW.Trod enc Ybaf.prog W 0 (fun _ => true) true 46 (.agg csK) dK pK := ⟨fK, by simpa [Value.cells] using hdK⟩
  have lt0 : ∀ x ∈ p0, x.block < W.heap.size := by obtain ⟨m, hm⟩ := k0; exact DataW.trod_lt m _ _ _ hm
  have ltv : ∀ x ∈ pK, x.block < W.heap.size := by obtain ⟨m, hm⟩ := kv; exact DataW.trod_lt m _ _ _ hm
  obtain ⟨n0, hf0⟩ := h0
  obtain ⟨KP, KN, KC, kbs, hK, hKN, hKB⟩ := keys_of (by simpa [Value.cells] using hf0)
  clear hA0 hV0 hval0
  have walk : Calls Ybaf.prog 4 #[.slice a0 len0 cap0, .bool b1] W fun e w' => e = .returned (.bool true) ∧ Below W.heap.size W w' :=
    asc_law F.told a0 len0 cap0 b1 KP KN KC kbs W ⟨hK, hKN, hKB, hkk, hF⟩
  refine walk.mono fun e W' ⟨he, bel⟩ => ?_
  subst he
  obtain ⟨fK', hdK'⟩ := Below.trod blaidOut (by kernel_rfl) (of_decide_eq_true (by kernel_rfl)) kv bel ltv
  have hv' := trodVars_mk1 (enc := enc) (spare := fun b => decide (b < W.heap.size)) gKinds tKinds (var?_below bel gKinds h3lt hvK) (by simpa [Value.cells] using hdK')
  exact ⟨_, rfl, _, _, _, [], _, _, hW', trodAll_mk1 (shut_bool Ybaf.underlying4 _), (trodAll_cons_mk (Below.trod blaidOut (by kernel_rfl) (of_decide_eq_true (by kernel_rfl)) k0 bel lt0) (trodAll_cons_mk (shut_bool Ybaf.underlying4 _) trodAll_mk0)),
    hv', bel.frame _, fun h => by cases h⟩

theorem fStops : Ybaf.pinned.checked.prog.stops = ["fmt.errorf"] := by kernel_rfl
theorem fStopKnobs : Ybaf.pinned.checked.prog.stopKnobs = [] := by kernel_rfl
theorem fQuiet (os : Os) : Stop.quiet Ybaf.pinned.checked.prog os := by
  intro k hk
  rw [fStopKnobs] at hk
  cases hk

theorem asc_told : Rows.LawS5056CAscendingToldSaid :=
  Claim7.holds_of_told_tied_any_at .later 4 Ybaf.f4 "fmt.errorf" [] [] _ _ _ _ _ (by kernel_rfl) rfl rfl rfl blaidOut (by kernel_rfl) rfl ⟨rfl, rfl, rfl, rfl, rfl, rfl, rfl⟩ rfl rfl (by kernel_rfl) (by kernel_rfl) Ybaf.func4 (by kernel_rfl)
    (of_decide_eq_true (by kernel_rfl)) (of_decide_eq_true (by kernel_rfl)) fStops.symm rfl fStopKnobs.symm (by kernel_rfl)
    (by kernel_rfl) (by kernel_rfl) (by kernel_rfl) (by kernel_rfl) (by kernel_rfl) (by kernel_rfl) (by kernel_rfl) (by kernel_rfl) (by kernel_rfl) rfl (by kernel_rfl) rfl rfl
    rfl rfl
    rfl (by kernel_rfl) (by kernel_rfl) (by kernel_rfl) (by decide) (by kernel_rfl) lawS5056CAscending_row_tie
    (OpenClaim.moreEntering_of (by kernel_rfl) (by kernel_rfl) (by kernel_rfl) (by kernel_rfl) (by kernel_rfl) (by kernel_rfl) (by kernel_rfl) (by kernel_rfl) (by kernel_rfl) (by kernel_rfl))
    ⟨_, WideRow.started_initial, fQuiet _⟩
    (fun os started _ H enc _ => asc_lifted os started H enc)

#print axioms asc_told
end Go.Proofs.YbulkczrmFmt
