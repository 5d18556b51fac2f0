import Derived.Test.YbulkczwiLaw
import Derived.Test.YbulkczwiGuard
import Derived.Test.YbulkczwiOpen
namespace Go.Proofs.Ybulkczwi
open Go.ChangeShapes Go.WideShapes Go.ChangeAt Go.RowKit
set_option linter.unusedVariables false
set_option linter.unusedSimpArgs false

theorem law_all (w : World) (a0 a1 a2 : Option Addr) (n c0 np c1 m c2 : Nat) (pp : Nat → Option Addr) (pn pc : Nat → Nat) (Pr : Nat → List Int) (pre : List Int) (Of : Nat → Nat) (h : InL w a0 n pp pn pc Pr a1 np pre a2 m Of) :
    Calls Yba.prog 3 #[.slice a0 n c0, .slice a1 np c1, .slice a2 m c2] w fun e w' => e = .returned (.bool true) ∧ Below w.heap.size w w' := by
  by_cases h1 : 300 < n
  · exact law_g1 w a0 a1 a2 n c0 np c1 m c2 h1
  · by_cases h2 : 1024 < np
    · exact law_g2 w a0 a1 a2 n c0 np c1 m c2 h1 h2
    · by_cases h3 : 1024 < m
      · exact law_g3 w a0 a1 a2 n c0 np c1 m c2 h1 h2 h3
      · exact law_any w a0 a1 a2 n c0 np c1 m c2 pp pn pc Pr pre Of h (by omega) (by omega) (by omega)

set_option maxRecDepth 100000 in
theorem attach_lifted (os : Os) (started : os.Started) (H : Type) (enc : TypeId × Value → H) :
    ReturnsInHanded {} Yba.checked os 3 .any (Rows.lawS5065CAttachSpec.pre6 enc Yba.prog Yba.f3 Rows.lawS5065CAttachRow.domain false) (Rows.lawS5065CAttachSpec.post enc Yba.prog Yba.f3 false true false false) := by
  refine returnsInHanded_of_change (C := Yba.checked) own0 started (by kernel_rfl) Yba.func3
    (ChangeSpec.witness6 (enc := enc) (C := Yba.checked) false ⟨#[], #[.slice none 0 0, .slice none 0 0, .slice none 0 0], []⟩ 8 (by kernel_rfl) (by kernel_rfl) (by kernel_rfl) (by kernel_rfl)) ?_
  intro W base args ds gs before hval0 hW hcnd _
  have hval : ∀ (j : Nat) t v, Yba.f3.params[j]? = some t → args[j]? = some v → Value.okWide Yba.prog W .any base t v := hval0
  have hW' := hW
  obtain ⟨p, q, hA0, hV, rfl, hfz, hnd⟩ := hW
  have hA : DataW.TrodAll enc Yba.prog W 0 (fun _ => true) true Yba.f3.params.toList args.toList ds p := hA0
  rw [Yba.params3] at hA hval
  obtain ⟨v0, vs0, d0, ds0, p0, q0, hargs, rfl, rfl, h0, r0⟩ := trodAll_cons hA
  obtain ⟨v1, vs1, d1, ds1, p1, q1, rfl, rfl, rfl, h1, r1⟩ := trodAll_cons r0
  obtain ⟨v2, vs2, d2, ds2, p2, q2, rfl, rfl, rfl, h2, r2⟩ := trodAll_cons r1
  obtain ⟨rfl, rfl, rfl⟩ := trodAll_nil r2
  obtain rfl : args = #[v0, v1, v2] := by cases args; simp_all
  obtain ⟨rfl, rfl⟩ := trodVars_none hV
  obtain ⟨a0, len0, cap0, rfl⟩ := okWide_slice Yba.underlying22 (hval 0 22 v0 rfl rfl)
  obtain ⟨a1, len1, cap1, rfl⟩ := okWide_slice Yba.underlying23 (hval 1 23 v1 rfl rfl)
  obtain ⟨a2, len2, cap2, rfl⟩ := okWide_slice Yba.underlying24 (hval 2 24 v2 rfl rfl)
  have k0 := h0
  have k1 := h1
  have k2 := h2
  have lt0 : ∀ x ∈ p0, x.block < W.heap.size := by obtain ⟨m, hm⟩ := k0; exact DataW.trod_lt m _ _ _ hm
  have lt1 : ∀ x ∈ p1, x.block < W.heap.size := by obtain ⟨m, hm⟩ := k1; exact DataW.trod_lt m _ _ _ hm
  have lt2 : ∀ x ∈ p2, x.block < W.heap.size := by obtain ⟨m, hm⟩ := k2; exact DataW.trod_lt m _ _ _ hm
  obtain ⟨n0, hf0⟩ := h0
  obtain ⟨n1, hf1⟩ := h1
  obtain ⟨n2, hf2⟩ := h2
  obtain ⟨pp, pn, pc, Pr, hi1, hi2, hi3⟩ := imgs_of (by simpa [Value.cells] using hf0)
  obtain ⟨y, hy, hu, _⟩ := uin_of (v := .slice a1 len1 cap1) (by simpa [Value.cells] using hf1)
  obtain ⟨Of, he1, he2⟩ := ear_of (by simpa [Value.cells] using hf2)
  simp only [Value.slice.injEq] at hy
  obtain ⟨ya, yl, yc⟩ := hy
  rw [← ya, ← yl] at hu
  clear hA0 hval0
  refine (law_all W a0 a1 a2 len0 cap0 len1 cap1 len2 cap2 pp pn pc Pr y.2.2.2 Of ⟨hi1, hi2, hi3, hu, he1, he2⟩).mono fun e W' ⟨he, bel⟩ => ?_
  subst he
  exact ⟨_, rfl, _, _, _, [], _, [], hW', trodAll_mk1 (shut_bool Yba.underlying4 _), (trodAll_cons_mk (Below.trod laidOut (by kernel_rfl) (of_decide_eq_true (by kernel_rfl)) k0 bel lt0) (trodAll_cons_mk (Below.trod laidOut (by kernel_rfl) (of_decide_eq_true (by kernel_rfl)) k1 bel lt1) (trodAll_cons_mk (Below.trod laidOut (by kernel_rfl) (of_decide_eq_true (by kernel_rfl)) k2 bel lt2) trodAll_mk0))), rfl, bel.frame _, fun h => by cases h⟩

theorem attach_proved : Rows.LawS5065CAttachSaid :=
  OpenClaim.holds_of_wide 3 Yba.f3 rfl rfl rfl rfl rfl rfl rfl ⟨rfl, rfl, rfl, rfl, rfl⟩ rfl rfl rfl rfl rfl (by kernel_rfl) Yba.func3 (by kernel_rfl)
    (of_decide_eq_true (by kernel_rfl)) (by unfold Func.isWrapper; first | (rw [if_pos (by decide +kernel)]; kernel_rfl) | (rw [if_neg (by decide +kernel)]; exact ⟨rfl, rfl⟩))
    (fun os started H enc _ => attach_lifted os started H enc)
#print axioms attach_proved
end Go.Proofs.Ybulkczwi
