/-
  'Rows.LawS5072AExactSaid' ('LawS5072AExact'): the frame is the guide's shell (proof-skeleton.mjs) for this function; the walk is ours.
-/
import Derived.Test.YbulkdaacRows
import Derived.WalkKit
import Derived.ProofKit
import Derived.OpenShut
import Derived.ShutString
import Derived.ChangeOld
import Derived.Below
import Derived.BigQuiet
import Derived.Deep.QuietTactic
import Derived.LaidEql
import Derived.Laws.Cover3
namespace Go.Proofs.Ybulkdaac.lawS5072AExact
open Go.ChangeShapes Go.WideShapes Go.ChangeAt Go.RowKit
open Go.ChangeMaps (open_string shut_string)
set_option linter.unusedVariables false
set_option linter.unusedSimpArgs false

theorem own : ownKnob Yba.prog.godebug = none := by kernel_rfl
theorem laidOut : laidOutB Yba.prog = true := by kernel_rfl

/-- WHAT THE WALK IS TOLD OF A SLICE OF INTEGERS THAT CAME IN: it is nil; or it leads to a row of 'cap' cells, the numbers 'zs' (the first 'len' are its elements, the rest its spare room), each fitting its kind. -/
def IsRow (k : IntKind) (w : World) (a : Option Addr) (len cap : Nat) (zs : List Int) : Prop :=
  (a = none ∧ len = 0 ∧ cap = 0 ∧ zs = []) ∨
  ∃ x, a = some x ∧ len ≤ cap ∧ cap ≤ maxLen ∧ zs.length = cap ∧ (∀ i, i < zs.length → w.cell? (x.add i) = some (.int k (zs.getD i 0))) ∧ ∀ n ∈ zs, (Lit.int k n).wf = true

/-! ### THE CALLEES -/
/-- what 'zzs5072aflags' computes -/
def flagOf (m v : Int) : Int := if m = 1 then (if v = 0 then 64 else 192) else (if v = 0 then 0 else 128)

set_option maxRecDepth 20000 in
theorem flags_ok (m v : Int) (w : World) : Calls Yba.prog 5 #[.int .u8 m, .int .u32 v] w fun e w' => e = .returned (.int .u8 (flagOf m v)) ∧ w' = w := by
  have b1 : bits .or .u8 0 64 = 64 := by kernel_rfl
  have b2 : bits .or .u8 0 128 = 128 := by kernel_rfl
  have b3 : bits .or .u8 64 128 = 192 := by kernel_rfl
  by_cases hm : (m == 1) = true <;> by_cases hv : (v == 0) = true <;>
  · have hm' := hm; have hv' := hv
    simp at hm' hv'
    try simp only [Bool.not_eq_true] at hm hv
    go_enter Yba.func5, Yba.ntmps5
    go_wp2
    go_ret
    exact ⟨by simp [flagOf, hm', hv', b1, b2, b3], rfl⟩

set_option maxRecDepth 20000 in
theorem avp_ok (n : ByteArray) (c v t m p : Int) (a : Option Addr) (l k : Nat) (w : World) :
    Calls Yba.prog 4 #[.agg #[.string n, .int .u32 c, .int .u32 v, .int .u8 t, .int .u8 m, .int .u8 p], .slice a l k] w
      fun e w' => e = .returned (.agg #[.int .u32 c, .int .u8 (flagOf m v), .int .u32 0, .int .u32 v, .slice a l k]) ∧ Below w.heap.size w w' := by
  have b1 : bits .or .u8 0 64 = 64 := by kernel_rfl
  have b2 : bits .or .u8 0 128 = 128 := by kernel_rfl
  have b3 : bits .or .u8 64 128 = 192 := by kernel_rfl
  by_cases hm : (m == 1) = true <;> by_cases hv : (v == 0) = true <;>
  · have hm' := hm; have hv' := hv
    simp at hm' hv'
    try simp only [Bool.not_eq_true] at hm hv
    go_enter Yba.func4, Yba.ntmps4
    go_wp2
    refine bodyPost_ret (v := .agg #[.int .u32 c, .int .u8 (flagOf m v), .int .u32 0, .int .u32 v, .slice a l k]) (by simp [results, Yba.results4, go_sem, flagOf, hm', hv', b1, b2, b3]) rfl ⟨rfl, ?_⟩
    exact (((Below.refl _ _).alloc (by simp) _).alloc (by simp) _).alloc (by simp; omega) _

theorem run_neq_ptr_same {P : Program} (w : World) {tp te : TypeId} {j : TypeInfo} (a : Addr) (hp : P.underlying tp = some (.pointer te)) (hte : P.info? te = some j) :
    (binOp .neq tp (.pointer (some a)) (.pointer (some a))).run P w = .ok (.bool false) w := by
  have h : ∀ d : Nat, (Op.equalIn (d + 1) tp (.pointer (some a)) (.pointer (some a))).run P w = .ok true w := fun d => by simp [Op.equalIn, run_underlying hp, sizeOf, typeInfo, hte, run_sameAddr_same]
  simp only [binOp]
  simp [Op.equal, Op.maxDepth, h 9999]
theorem run_eql_slice_nil {P : Program} (w : World) (t e : TypeId) (a : Option Addr) (l c : Nat) (h : P.underlying t = some (.slice e)) :
    (binOp .eql t (.slice a l c) (.slice none 0 0)).run P w = .ok (.bool a.isNone) w := by
  simp only [binOp]
  simp [run_equal_slice_nil w t e a l c h]

theorem size5' : (Yba.prog.info? 5).map (·.size) = some 1 := by kernel_rfl
theorem below_drewN {B : Nat} {a w : World} (n : Nat) (h : Below B a w) : Below B a (w.drewN n) := ⟨h.os, h.tape, h.output, h.size, h.block⟩
theorem below_end2 {w u : World} {o p : Obj} {m n : Nat} (h : (w.alloc o).heap.size ≤ u.heap.size) : Below w.heap.size u (((u.alloc p).drewN m).drewN n) :=
  below_drewN _ (below_drewN _ ((Below.refl _ _).alloc (by simp at h; omega) _))
/-! ### STEP 1: THE WALK -/
set_option maxRecDepth 20000 in
theorem walk (a0 : ByteArray) (a1 : Int) (a2 : Int) (a3 : Int) (a4 : Int) (a5 : Int) (a6 : Option Addr) (len6 cap6 : Nat) (z6 : List Int) (w : World) (w0 : a0.size ≤ maxLen) (w1 : (Lit.int .u32 a1).wf = true) (w2 : (Lit.int .u32 a2).wf = true) (w3 : (Lit.int .u8 a3).wf = true) (w4 : (Lit.int .u8 a4).wf = true) (w5 : (Lit.int .u8 a5).wf = true) (w6 : IsRow .u8 w a6 len6 cap6 z6) :
    Calls Yba.prog 3 #[.string a0, .int .u32 a1, .int .u32 a2, .int .u8 a3, .int .u8 a4, .int .u8 a5, .slice a6 len6 cap6] w fun e w' => e = .returned (.bool true) ∧ Below w.heap.size w w' := by
  have hz : a6 = none → len6 = 0 := by
    intro h
    rcases w6 with ⟨_, h, _, _⟩ | ⟨x, hx, _⟩
    · exact h
    · rw [h] at hx; cases hx
  have hlen : len6 ≤ maxLen := by rcases w6 with ⟨_, h, _, _⟩ | ⟨x, hx, h1, h2, _⟩ <;> omega
  have hnil := fun (W : World) (a : Option Addr) (l c : Nat) => run_eql_slice_nil (P := Yba.prog) W 23 5 a l c Yba.underlying23
  obtain ⟨j5, hj5, _⟩ := Option.map_eq_some_iff.1 size5'
  have hpn := fun (W : World) (a : Addr) => run_neq_ptr_same (P := Yba.prog) W a Yba.underlying32 hj5
  clear w6
  by_cases hl : 0 < len6
  · have hd : decide (0 < (len6 : Int)) = true := by simp; omega
    obtain ⟨x, rfl⟩ : ∃ x, a6 = some x := by
      cases a6 with
      | none => have := hz rfl; omega
      | some x => exact ⟨x, rfl⟩
    clear hz
    go_enter Yba.func3, Yba.ntmps3
    go_wp2_with fail
    refine (avp_ok _ _ _ _ _ _ _ _ _ _).mono ?_
    rintro e w' ⟨rfl, b⟩
    go_wp2_with fail
    go_quiet ((go_at_call 5; exact Calls.quiet_of_same (flags_ok _ _ _)))
    go_wp2_with fail
    go_quiet (fail)
    go_wp2_with fail
    go_ret
    refine ⟨rfl, (((Below.refl _ _).alloc (Nat.le_refl _) _).trans (b.mono (by simp))).trans ?_⟩
    exact below_end2 b.size
  · have hd : decide (0 < (len6 : Int)) = false := by simp; omega
    clear hz
    cases a6
    all_goals
      go_enter Yba.func3, Yba.ntmps3
      go_wp2_with fail
      refine (avp_ok _ _ _ _ _ _ _ _ _ _).mono ?_
      rintro e w' ⟨rfl, b⟩
      go_wp2_with fail
      go_quiet ((go_at_call 5; exact Calls.quiet_of_same (flags_ok _ _ _)))
      go_wp2_with fail
      go_quiet (fail)
      go_wp2_with fail
      go_ret
      refine ⟨rfl, (((Below.refl _ _).alloc (Nat.le_refl _) _).trans (b.mono (by simp))).trans ?_⟩
      exact below_end2 b.size

/-! ### THE ROW's STEP: WRITTEN OUT: LEAVE IT -/
set_option maxRecDepth 100000 in
theorem lifted (os : Os) (started : os.Started) (H : Type) (enc : TypeId × Value → H) :
    ReturnsInHanded {} Yba.checked os 3 .any (Rows.lawS5072AExactSpec.pre6 enc Yba.prog Yba.f3 Rows.lawS5072AExactRow.domain false) (Rows.lawS5072AExactSpec.post enc Yba.prog Yba.f3 false true false false) := by
  refine returnsInHanded_of_change (C := Yba.checked) own started (by kernel_rfl) Yba.func3
    (ChangeSpec.witness6 (enc := enc) (C := Yba.checked) false ⟨#[], #[.string ByteArray.empty, .int .u32 0, .int .u32 0, .int .u8 0, .int .u8 0, .int .u8 0, .slice none 0 0], []⟩ 8 (by kernel_rfl) (by kernel_rfl) (by kernel_rfl) (by kernel_rfl)) ?_
  intro W base args ds gs before hval0 hW hcnd _
  have hval : ∀ (j : Nat) t v, Yba.f3.params[j]? = some t → args[j]? = some v → Value.okWide Yba.prog W .any base t v := hval0
  have hW' := hW
  obtain ⟨p, q, hA0, hV, rfl, hfz, hnd⟩ := hW
  have hA : DataW.TrodAll enc Yba.prog W 0 (fun _ => true) true Yba.f3.params.toList args.toList ds p := hA0
  rw [Yba.params3] at hA hval
  obtain ⟨v0, vs0, d0, ds0, p0, q0, hargs, rfl, rfl, h0, r0⟩ := trodAll_cons hA
  obtain ⟨v1, vs1, d1, ds1, p1, q1, rfl, rfl, rfl, h1, r1⟩ := trodAll_cons r0
  obtain ⟨v2, vs2, d2, ds2, p2, q2, rfl, rfl, rfl, h2, r2⟩ := trodAll_cons r1
  obtain ⟨v3, vs3, d3, ds3, p3, q3, rfl, rfl, rfl, h3, r3⟩ := trodAll_cons r2
  obtain ⟨v4, vs4, d4, ds4, p4, q4, rfl, rfl, rfl, h4, r4⟩ := trodAll_cons r3
  obtain ⟨v5, vs5, d5, ds5, p5, q5, rfl, rfl, rfl, h5, r5⟩ := trodAll_cons r4
  obtain ⟨v6, vs6, d6, ds6, p6, q6, rfl, rfl, rfl, h6, r6⟩ := trodAll_cons r5
  obtain ⟨rfl, rfl, rfl⟩ := trodAll_nil r6
  obtain rfl : args = #[v0, v1, v2, v3, v4, v5, v6] := by cases args; simp_all
  obtain ⟨rfl, rfl⟩ := trodVars_none hV
  obtain ⟨a0, rfl, rfl, rfl, w0⟩ := open_string Yba.underlying9 (hval 0 9 v0 rfl rfl) h0
  obtain ⟨a1, rfl, rfl, rfl, w1⟩ := open_int Yba.underlying22 (hval 1 22 v1 rfl rfl) h1
  obtain ⟨a2, rfl, rfl, rfl, w2⟩ := open_int Yba.underlying22 (hval 2 22 v2 rfl rfl) h2
  obtain ⟨a3, rfl, rfl, rfl, w3⟩ := open_int Yba.underlying5 (hval 3 5 v3 rfl rfl) h3
  obtain ⟨a4, rfl, rfl, rfl, w4⟩ := open_int Yba.underlying5 (hval 4 5 v4 rfl rfl) h4
  obtain ⟨a5, rfl, rfl, rfl, w5⟩ := open_int Yba.underlying5 (hval 5 5 v5 rfl rfl) h5
  obtain ⟨a6, len6, cap6, rfl⟩ := okWide_slice Yba.underlying23 (hval 6 23 v6 rfl rfl)
  have k6 := h6
  have lt6 : ∀ x ∈ p6, x.block < W.heap.size := by obtain ⟨m, hm⟩ := k6; exact DataW.trod_lt m _ _ _ hm
  obtain ⟨z6, w6⟩ : ∃ zs, IsRow .u8 W a6 len6 cap6 zs := by
    obtain ⟨fuel, hf⟩ := h6
    rcases open_ints Yba.underlying23 Yba.underlying5 (by kernel_rfl) hf with ⟨hcs, _⟩ | ⟨x, l, c, zs, hcs, _, hl, hm, hz, _, hcell, hwz⟩
    · simp [Value.cells] at hcs
      obtain ⟨rfl, rfl, rfl⟩ := hcs
      exact ⟨[], .inl ⟨rfl, rfl, rfl, rfl⟩⟩
    · simp [Value.cells] at hcs
      obtain ⟨rfl, rfl, rfl⟩ := hcs
      exact ⟨zs, .inr ⟨_, rfl, hl, hm, by simpa using hz, hcell, hwz⟩⟩
  clear hA0 hval0
  refine (walk a0 a1 a2 a3 a4 a5 a6 len6 cap6 z6 W w0 w1 w2 w3 w4 w5 w6).mono fun e W' ⟨he, bel⟩ => ?_
  subst he
  exact ⟨_, rfl, _, _, _, [], _, [], hW', trodAll_mk1 (shut_bool Yba.underlying4 _), (trodAll_cons_mk (shut_string Yba.underlying9 w0) (trodAll_cons_mk (shut_int Yba.underlying22 w1) (trodAll_cons_mk (shut_int Yba.underlying22 w2) (trodAll_cons_mk (shut_int Yba.underlying5 w3) (trodAll_cons_mk (shut_int Yba.underlying5 w4) (trodAll_cons_mk (shut_int Yba.underlying5 w5) (trodAll_cons_mk (Below.trod laidOut (by kernel_rfl) (of_decide_eq_true (by kernel_rfl)) k6 bel lt6) trodAll_mk0))))))), rfl, bel.frame _, fun h => by cases h⟩

theorem over : Rows.lawS5072AExactRow.holds Yba.pinned (OpenSpec.ofChange Rows.lawS5072AExactSpec) :=
  OpenClaim.holds_of_wide 3 Yba.f3 rfl rfl rfl rfl rfl rfl rfl ⟨rfl, rfl, rfl, rfl, rfl⟩ rfl rfl rfl rfl rfl (by kernel_rfl) Yba.func3 (by kernel_rfl)
    (of_decide_eq_true (by kernel_rfl)) (by unfold Func.isWrapper; first | (rw [if_pos (by decide +kernel)]; kernel_rfl) | (rw [if_neg (by decide +kernel)]; exact ⟨rfl, rfl⟩))
    (fun os started H enc _ => lifted os started H enc)

/-- ████ THE STATEMENT ████ -/
theorem proved : Rows.LawS5072AExactSaid := over
#print axioms proved
end Go.Proofs.Ybulkdaac.lawS5072AExact
namespace Go.Proofs.Ybulkdaac
/-- the same, under a short name -/
theorem exact_proved : Rows.LawS5072AExactSaid := lawS5072AExact.proved
end Go.Proofs.Ybulkdaac
