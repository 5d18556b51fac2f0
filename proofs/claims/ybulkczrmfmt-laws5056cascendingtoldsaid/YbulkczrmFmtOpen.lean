import Derived.Test.YbulkczrmFmtKeys
import Derived.Test.YbulkczrmFmtTie
import Derived.Test.YbulkczrmFmtCards
import Derived.SevenTiedAt
import Derived.ProofKit
import Derived.LaidMore
import Derived.OpenShut
import Derived.ShutString
import Derived.ChangeOld
import Derived.Stop.Joined
import Derived.Stop.JoinedTold
import Derived.Deep.DeepWitnessRef
import Derived.Lib.SmallJoins
import Derived.Deep.Matrix
namespace Go.Proofs.YbulkczrmFmt
open Go.ChangeShapes Go.WideShapes Go.ChangeAt Go.RowKit Go.Extern.Stop Go.Stop Go.Extern
set_option linter.unusedVariables false
set_option linter.unusedSimpArgs false

theorem bown : ownKnob Ybaf.prog.godebug = none := by kernel_rfl
theorem blaidOut : laidOutB Ybaf.prog = true := by kernel_rfl
abbrev kindsName : String := Rows.lawS5056CModelSpec.vars.headD ""
theorem gKinds : Ybaf.prog.globalNamed kindsName = some 0 := by kernel_rfl
abbrev laidK : List (String × DataW Unit) := [(kindsName, Rows.laid_example_com_broadleaf_broadleaf_pageKinds)]

/-- A slice of byte slices that came in. -/
theorem keys_of {H : Type} {enc : TypeId × Value → H} {W : World} {fuel : Nat} {a : Option Addr} {len cap : Nat} {x : DataW H × List MemPlace} (hf : DataW.trod enc Ybaf.prog W 0 (fun _ => true) true fuel 22 [.slice a len cap] = some x) :
    ∃ P N C kbs, KeysIn W a len P N C kbs ∧ (∀ i, i < len → N i ≤ 9223372036854775807) ∧ ∀ i, i < len → Bytes (kbs i) := by
  rcases Deep.open_int_rows Ybaf.underlying22 Ybaf.underlying23 Ybaf.underlying5 (by kernel_rfl) (by kernel_rfl) hf with ⟨hcs, _⟩ | ⟨y, l, c, A, L, C, Z, hcs, _, hl, hm, _, hr⟩
  · simp at hcs
    obtain ⟨rfl, rfl, rfl⟩ := hcs
    exact ⟨fun _ => none, fun _ => 0, fun _ => 0, fun _ => [], ⟨fun h => absurd h (Nat.lt_irrefl _), fun i h => absurd h (Nat.not_lt_zero _)⟩, fun i h => absurd h (Nat.not_lt_zero _), fun i h => absurd h (Nat.not_lt_zero _)⟩
  · simp at hcs
    obtain ⟨rfl, rfl, rfl⟩ := hcs
    refine ⟨A, L, C, fun r => (Z r).take (L r), ⟨fun h => ?_, fun i hi => ?_⟩, fun i hi => ?_, fun i hi => ?_⟩
    · obtain ⟨b, off, spot⟩ := y
      have hspot : spot = none := by simpa [Addr.add] using World.cell?_spot (hr 0 (by omega)).1
      subst hspot
      exact ⟨b, off, rfl, fun i hi => by rw [← Addr.add_lit]; exact (hr i (by omega)).1⟩
    · obtain ⟨h1, h2, h3, h4, h5, h6, h7⟩ := hr i (by omega)
      refine ⟨by simp; omega, fun h0 => ?_⟩
      cases hA : A i with
      | none => have := h6 hA; omega
      | some a' =>
        obtain ⟨_, hc⟩ := h7 a' hA
        have hc' : ∀ j, j < (Z i).length → W.cell? (a'.add j) = some (.int .u8 ((Z i).getD j 0)) := fun j hj => hc j (by omega)
        obtain ⟨b, o, rfl, hh⟩ := ints_at hc' (by omega)
        refine ⟨b, o, rfl, fun j hj => ?_⟩
        rw [hh j (by omega)]
        simp [hj]
    · obtain ⟨h1, h2, h3, h4, h5, h6, h7⟩ := hr i (by omega)
      unfold maxLen at h3
      omega
    · obtain ⟨h1, h2, h3, h4, h5, h6, h7⟩ := hr i (by omega)
      intro x hx
      have := bounds_u8 (h5 x (List.mem_of_mem_take hx))
      omega
theorem tKinds : (Ybaf.prog.globals[0]?).map (·.type) = some 46 := by kernel_rfl
theorem kdoor_met (os : Os) (args : Array Value) : laidMetH Ybaf.prog laidK ((World.doorLaid Ybaf.prog 16 os).forCall (fun _ _ => 0) ⟨#[], args, []⟩).memory :=
  laidMetH_of_parts3 (fuel := 8) (laidMet_of_run' 8 (by kernel_rfl) (by kernel_rfl)) (by kernel_rfl) (by kernel_rfl)

theorem cellsS : Ybaf.prog.cellsOf 45 = 4 := by kernel_rfl
theorem cellsI : Ybaf.prog.cellsOf 3 = 1 := by kernel_rfl

set_option maxRecDepth 100000 in
/-- WHAT THE CONDITION GIVES THE WALK: the headers' sizes of a leaf and of an internal page. -/
theorem kinds_of_laid {W : World} (h : laidMetH Ybaf.prog laidK W) : Kinds W := by
  rw [MakeChecks.laidMetH_plain _ _ _ (by kernel_rfl)] at h
  obtain ⟨ps, ⟨g0, t0, cs0, f0, p0, q0, hg0, ht0, hv0, hd0, _, _⟩, _, _⟩ := h
  obtain rfl := Option.some.inj (gKinds.symm.trans hg0)
  obtain rfl := Option.some.inj (tKinds.symm.trans ht0)
  obtain ⟨xs, m1, rfl, hx1, hlen, hn3, hel⟩ := DataW.trod_array Ybaf.underlying46 hd0
  have h1 := hel 1 (by decide)
  have h2 := hel 2 (by decide)
  simp only [Prod.mk.injEq] at hx1
  match xs, hn3, hx1, h1, h2 with
  | [x0, x1, x2], _, hx1, h1, h2 =>
    obtain ⟨a0, a1, a2, a3, n', hy', hl', _, _, _, hy3'⟩ := Joins.trod_struct4 Ybaf.underlying45 (show DataW.trod _ Ybaf.prog W 0 _ false m1 45 _ = some x1 from h1)
    obtain ⟨k', e1', e2', _⟩ := DataW.trod_int Ybaf.underlying3 hy3'
    obtain ⟨y0, y1, y2, y3, n, hy, hl, _, _, _, hy3⟩ := Joins.trod_struct4 Ybaf.underlying45 (show DataW.trod _ Ybaf.prog W 0 _ false m1 45 _ = some x2 from h2)
    obtain ⟨k, e1, e2, _⟩ := DataW.trod_int Ybaf.underlying3 hy3
    have hk : k' = 4 ∧ k = 6 := by
      have e := hx1.1
      simp only [Rows.laid_example_com_broadleaf_broadleaf_pageKinds, List.map_cons, List.map_nil, DataW.agg.injEq, List.cons.injEq] at e
      have e' := e.2.2.1
      have f' := e.2.1
      rw [hy] at e'
      rw [hy'] at f'
      simp only [DataW.agg.injEq, List.cons.injEq] at e' f'
      have e'' := e'.2.2.2.1
      have f'' := f'.2.2.2.1
      rw [e2] at e''
      rw [e2'] at f''
      exact ⟨by simpa using f''.symm, by simpa using e''.symm⟩
    obtain ⟨rfl, rfl⟩ := hk
    rw [cellsS, cellsI] at e1 e1'
    obtain ⟨l⟩ := cs0
    refine ⟨(World.var?_cell gKinds hv0 7).trans ?_, (World.var?_cell gKinds hv0 11).trans ?_⟩
    · have e3 : l[7]? = some (.int .i64 4) := by
        have := congrArg (fun z => z[0]?) e1'
        simpa [List.getElem?_take, List.getElem?_drop] using this
      simpa using e3
    · have e3 : l[11]? = some (.int .i64 6) := by
        have := congrArg (fun z => z[0]?) e1
        simpa [List.getElem?_take, List.getElem?_drop] using this
      simpa using e3
end Go.Proofs.YbulkczrmFmt
