import Derived.Test.YbulkczrmFmtAscKit
import Derived.Test.YbulkczrmFmtLawKit
import Derived.Deep.AppendSrc
namespace Go.Proofs.YbulkczrmFmt
open Go.RowKit Go.Extern.Stop Go.Stop Go.Extern
set_option linter.unusedVariables false
set_option linter.unusedSimpArgs false

set_option maxRecDepth 20000 in
/-- slices.Clip -/
theorem clip_any (b o n c : Nat) (w : World) (h : n ≤ c) (hc : c ≤ 1026) :
    Calls Ybaf.prog 15 #[.slice (some ⟨b, o, none⟩) n c] w fun e w' => e = .returned (.slice (some ⟨b, o, none⟩) n n) ∧ w' = w := by
  have h1 : (0 : Int) ≤ (n : Int) := by omega
  have h2 : (n : Int) ≤ (c : Int) := by omega
  go_enter Ybaf.func15, Ybaf.ntmps15
  go_wp2
  go_ret
  exact ⟨rfl, rfl⟩

/-- 'append' of one onto a full slice, as one step of a region that draws its order: the new row. -/
theorem step_dup {ops : Array Oper} {o : Oper} {a : Act} {w : World} {K : Act → World → Prop} {Q : Exit → Act → World → Prop} {E : Prop} (hgd : o.guard = none) (s x : Operand)
    (ho : o.op = .call { callee := .builtin .append, args := #[s, x], argTypes := #[22, 22] })
    (b n c H ag : Nat) (olds : List Value) (v : Value) (hs : a.eval s = .slice (some ⟨b, 0, none⟩) n n) (hx : a.eval x = .slice (some ⟨ag, 0, none⟩) 1 c)
    (hold : ∀ j u, olds[j]? = some u → w.cell? ⟨b, j, none⟩ = some u) (hol : olds.length = n) (hv : w.cell? ⟨ag, 0, none⟩ = some v) (h1 : v.oneCell' = true) (hn : n ≤ 1100) (hH : w.heap.size = H)
    (h : ∀ cap w', Hid (∃ cs : List Value, w'.heap[H]? = some (.cells cs.toArray 23 (0, 0)) ∧ cs.take (n + 1) = olds ++ [v] ∧ Below w.heap.size w w') → K (a.put o.dst (.slice (some ⟨H, 0, none⟩) (n + 1) cap)) w') :
    if Region.wanted o (yielded ops a.tmps) = true then Oper.wp Ybaf.prog o a w K Q else E := by
  subst hH
  have hw : Region.wanted o (yielded ops a.tmps) = true := by simp [Region.wanted, hgd]
  rw [if_pos hw]
  obtain ⟨i0, hi, hz0, hz1, hz2⟩ := info_parts Ybaf.info23
  have hsrc : Src Ybaf.prog i0.size 22 (.slice (some ⟨ag, 0, none⟩) 1 c) 1 [v] w := by
    rw [hz1]
    refine Src.ofSlice _ Ybaf.underlying22 _ 1 c [v] rfl (fun j u hj => ?_) (fun u hu => by obtain rfl := List.mem_singleton.1 hu; exact h1)
    cases j with
    | zero =>
      simp only [List.getElem?_cons_zero, Option.some.injEq] at hj
      subst hj
      rw [Addr.add_lit]; exact hv
    | succ j => simp at hj
  have hfc : (Builtin.firstCells i0.size n (.slice (some ⟨b, 0, none⟩) n n)).run Ybaf.prog w.drew = .ok olds.toArray w.drew := by
    rw [hz1]
    exact run_firstCells_some w.drew 1 n ⟨b, 0, none⟩ n n olds (by omega) (fun j u hj => by rw [Addr.add_lit, Nat.zero_add]; exact hold j u hj)
  have hrun := run_append_grow_src (P := Ybaf.prog) w 22 22 o.type 23 i0 _ Ybaf.underlying22 hi hz0 (some ⟨b, 0, none⟩) n n olds hfc _ 1 [v] hsrc (by omega) (by omega) (growslice_fits (by omega) (by rw [hz2]; omega))
  unfold Oper.wp
  simp [execOp, ho, resolve, invoke, builtin, hs, hx, hrun, Result.andThen]
  refine h _ _ ⟨(olds ++ [v]) ++ (Builtin.zeroCells #[.slice none 0 0] (grownCap w (n + 1) n 23 - (n + 1))).toList, ?_, ?_, ?_⟩
  · show (w.heap.push _)[w.heap.size]? = _
    rw [Array.getElem?_push_size]
    simp [Value.cells]
  · rw [List.take_append_of_le_length (by simp [hol])]
    rw [List.take_of_length_le (by simp [hol])]
  · exact (Below.refl _ _).drew.alloc (Nat.le_refl _) _
end Go.Proofs.YbulkczrmFmt
