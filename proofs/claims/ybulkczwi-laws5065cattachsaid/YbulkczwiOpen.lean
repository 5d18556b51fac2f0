import Derived.Test.YbulkczwiIn
import Derived.ProofKit
import Derived.OpenShut
import Derived.ShutString
import Derived.ChangeOld
import Derived.Stop.Joined
import Derived.Deep.Slices
import Derived.Deep.SlicePairs
import Derived.Deep.Matrix
namespace Go.Proofs.Ybulkczwi
open Go.ChangeShapes Go.WideShapes Go.ChangeAt Go.RowKit
set_option linter.unusedVariables false
set_option linter.unusedSimpArgs false

theorem own0 : ownKnob Yba.prog.godebug = none := by kernel_rfl

/-- A slice of uint16 that came in. -/
theorem uin_of {H : Type} {enc : TypeId × Value → H} {W : World} {fuel : Nat} {v : Value} {x : DataW H × List MemPlace} (hf : DataW.trod enc Yba.prog W 0 (fun _ => true) true fuel 23 [v] = some x) : ∃ y : Option Addr × Nat × Nat × List Int, v = .slice y.1 y.2.1 y.2.2.1 ∧ UIn W y.1 y.2.1 y.2.2.2 ∧ y.2.1 ≤ 9223372036854775807 := by
  rcases open_ints Yba.underlying23 Yba.underlying35 (by kernel_rfl) hf with ⟨hcs, _⟩ | ⟨y, l, c, zs, hcs, _, hl, hm, hz, _, hcell, hwz⟩
  · exact ⟨(none, 0, 0, []), by simpa using hcs, ⟨rfl, fun h => absurd h (Nat.lt_irrefl _), fun x hx => by cases hx⟩, Nat.zero_le _⟩
  · simp only [if_true] at hz
    unfold maxLen at hm
    refine ⟨(some y, l, c, zs.take l), by simpa using hcs, ⟨by simp; omega, fun h => ?_, fun x hx => ?_⟩, by show l ≤ _; omega⟩
    · have h' : 0 < l := h
      obtain ⟨b, o, rfl, hc⟩ := ints_at hcell (by omega)
      refine ⟨b, o, rfl, fun j hj => ?_⟩
      have hj' : j < l := hj
      rw [hc j (by omega)]
      simp [hj']
    · have := bounds_u16 (hwz x (List.mem_of_mem_take hx))
      omega

theorem imgs_of {H : Type} {enc : TypeId × Value → H} {W : World} {fuel : Nat} {a : Option Addr} {len cap : Nat} {x : DataW H × List MemPlace} (hf : DataW.trod enc Yba.prog W 0 (fun _ => true) true fuel 22 [.slice a len cap] = some x) :
    ∃ (pp : Nat → Option Addr) (pn pc : Nat → Nat) (Pr : Nat → List Int), (0 < len → ∃ b o, a = some ⟨b, o, none⟩ ∧ ∀ i, i < len → W.cell? ⟨b, o + i, none⟩ = some (.slice (pp i) (pn i) (pc i))) ∧ (∀ i, i < len → UIn W (pp i) (pn i) (Pr i)) ∧ ∀ i, i < len → pn i ≤ 9223372036854775807 := by
  rcases Deep.open_slice1 Yba.underlying22 (by kernel_rfl) hf with ⟨hcs, _⟩ | ⟨y, l, c, m, n, V, D, Pl, hcs, _, hl, hm, hmm, _, hr⟩
  · simp at hcs
    obtain ⟨rfl, rfl, rfl⟩ := hcs
    exact ⟨fun _ => none, fun _ => 0, fun _ => 0, fun _ => [], fun h => absurd h (Nat.lt_irrefl _), fun i h => absurd h (Nat.not_lt_zero _), fun i h => absurd h (Nat.not_lt_zero _)⟩
  · simp at hcs
    obtain ⟨rfl, rfl, rfl⟩ := hcs
    simp only [if_true] at hmm
    have hlm : len ≤ m := by omega
    have each : ∀ i, i < m → ∃ q : Option Addr × Nat × Nat × List Int, V i = .slice q.1 q.2.1 q.2.2.1 ∧ UIn W q.1 q.2.1 q.2.2.2 ∧ q.2.1 ≤ 9223372036854775807 := fun i hi => by
      obtain ⟨y0, k, _, _, hf0⟩ := trod_struct1 Yba.underlying26 (hr i hi).2
      exact uin_of (by simpa [show Yba.prog.cellsOf 23 = 1 by kernel_rfl] using hf0)
    obtain ⟨Y, hY⟩ := Deep.choose_lt each
    refine ⟨fun i => (Y i).1, fun i => (Y i).2.1, fun i => (Y i).2.2.1, fun i => (Y i).2.2.2, fun h => ?_, fun i hi => (hY i (by omega)).2.1, fun i hi => (hY i (by omega)).2.2⟩
    obtain ⟨b, off, spot⟩ := y
    have hspot : spot = none := by simpa [Addr.add] using World.cell?_spot (hr 0 (by omega)).1
    subst hspot
    exact ⟨b, off, rfl, fun i hi => by rw [← Addr.add_lit, ← (hY i (by omega)).1]; exact (hr i (by omega)).1⟩

theorem ear_of {H : Type} {enc : TypeId × Value → H} {W : World} {fuel : Nat} {a : Option Addr} {len cap : Nat} {x : DataW H × List MemPlace} (hf : DataW.trod enc Yba.prog W 0 (fun _ => true) true fuel 24 [.slice a len cap] = some x) :
    ∃ Of : Nat → Nat, (0 < len → ∃ b o, a = some ⟨b, o, none⟩ ∧ ∀ e, e < len → W.cell? ⟨b, o + e * 2, none⟩ = some (.int .u16 (Of e))) ∧ ∀ e, e < len → Of e < 65536 := by
  rcases Deep.open_slice_pairs Yba.underlying24 Yba.underlying47 (by kernel_rfl) rfl rfl (by kernel_rfl) (by kernel_rfl) hf with ⟨hcs, _⟩ | ⟨y, l, c, m, n, V0, V1, D0, D1, P0, P1, hcs, _, hl, hm, hmm, _, hr⟩
  · simp at hcs
    obtain ⟨rfl, rfl, rfl⟩ := hcs
    exact ⟨fun _ => 0, fun h => absurd h (Nat.lt_irrefl _), fun i h => absurd h (Nat.not_lt_zero _)⟩
  · simp at hcs
    obtain ⟨rfl, rfl, rfl⟩ := hcs
    simp only [if_true] at hmm
    have hlm : len ≤ m := by omega
    have each : ∀ i, i < m → ∃ q : Nat, V0 i = .int .u16 q ∧ q < 65536 := fun i hi => by
      obtain ⟨k, e1, _, hw⟩ := DataW.trod_int Yba.underlying35 (hr i hi).2.2.1
      have := bounds_u16 hw
      refine ⟨k.toNat, ?_, by omega⟩
      have e2 : V0 i = .int .u16 k := by simpa using e1
      rw [e2, show ((k.toNat : Nat) : Int) = k by omega]
    obtain ⟨Y, hY⟩ := Deep.choose_lt each
    refine ⟨Y, fun h => ?_, fun e he => (hY e (by omega)).2⟩
    obtain ⟨b, off, spot⟩ := y
    have hspot : spot = none := by simpa [Addr.add] using World.cell?_spot (hr 0 (by omega)).1
    subst hspot
    exact ⟨b, off, rfl, fun e he => by rw [← Addr.add_lit, ← (hY e (by omega)).1]; exact (hr e (by omega)).1⟩
end Go.Proofs.Ybulkczwi
