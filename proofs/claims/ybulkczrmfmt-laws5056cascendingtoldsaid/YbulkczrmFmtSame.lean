import Derived.Test.YbulkczrmFmtCells
import Derived.Laws.Cover3
namespace Go.Proofs.YbulkczrmFmt
open Go.RowKit
set_option linter.unusedVariables false
set_option linter.unusedSimpArgs false

/-- A slice of the bytes xs: where there is a byte, an address with its cells. -/
structure BIn (w : World) (p : Option Addr) (n : Nat) (xs : List Int) : Prop where
  len : xs.length = n
  at' : 0 < n → ∃ b o, p = some ⟨b, o, none⟩ ∧ ∀ j, j < n → w.cell? ⟨b, o + j, none⟩ = some (.int .u8 (xs.getD j 0))

theorem BIn.cell {w w' : World} {p : Option Addr} {n : Nat} {xs : List Int} (h : BIn w p n xs) (hc : ∀ a v, w.cell? a = some v → w'.cell? a = some v) : BIn w' p n xs :=
  ⟨h.len, fun hn => by obtain ⟨b, o, e, hj⟩ := h.at' hn; exact ⟨b, o, e, fun j hj' => hc _ _ (hj j hj')⟩⟩

theorem BIn.convert {w : World} {p : Option Addr} {n : Nat} {xs : List Int} (h : BIn w p n xs) (c : Nat) : (convert 23 9 (.slice p n c)).run Ybaf.prog w = .ok (.string (strOfNums xs)) w := by
  rcases Nat.eq_zero_or_pos n with hn | hn
  · subst hn
    obtain rfl : xs = [] := List.eq_nil_of_length_eq_zero h.len
    rw [run_convert_bytes_string w 23 9 5 _ 0 c Ybaf.underlying23 Ybaf.underlying5 Ybaf.underlying9]
    cases p with
    | none => simp [Conv.bytesToString]; rfl
    | some a => simp [Conv.bytesToString, loadCells, loadCellsFrom]; rfl
  · obtain ⟨b, o, rfl, hc⟩ := h.at' hn
    exact run_convert_bytes_arg (P := Ybaf.prog) w 23 5 Ybaf.underlying23 Ybaf.underlying5 b o n c xs h.len hc 9 Ybaf.underlying9

theorem eql_slice_nil (t e : TypeId) (a : Option Addr) (l c : Nat) (h : Ybaf.prog.underlying t = some (.slice e)) (w : World) : (binOp .eql t (.slice a l c) (.slice none 0 0)).run Ybaf.prog w = .ok (.bool a.isNone) w := by
  simp only [binOp]
  simp [run_equal_slice_nil w t e a l c h]

set_option maxRecDepth 20000 in
theorem equal_same (p1 p2 : Option Addr) (n c m d : Nat) (xs : List Int) (w : World) (h1 : BIn w p1 n xs) (h2 : BIn w p2 m xs) :
    Calls Ybaf.prog 12 #[.slice p1 n c, .slice p2 m d] w fun e w' => e = .returned (.bool true) ∧ w' = w := by
  have e1 := h1.convert c
  have e2 := h2.convert d
  clear h1 h2
  go_enter Ybaf.func12, Ybaf.ntmps12
  go_wp2
  go_ret
  exact ⟨rfl, rfl⟩

end Go.Proofs.YbulkczrmFmt
