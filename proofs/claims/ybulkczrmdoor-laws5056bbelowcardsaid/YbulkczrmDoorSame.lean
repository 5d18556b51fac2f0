import Derived.Test.YbulkczrmDoorCells
import Derived.Laws.Cover3
namespace Go.Proofs.YbulkczrmDoor
open Go.RowKit
set_option linter.unusedVariables false
set_option linter.unusedSimpArgs false

/-- A slice of the bytes xs: where there is a byte, an address with its cells. -/
structure BIn (w : World) (p : Option Addr) (n : Nat) (xs : List Int) : Prop where
  len : xs.length = n
  at' : 0 < n → ∃ b o, p = some ⟨b, o, none⟩ ∧ ∀ j, j < n → w.cell? ⟨b, o + j, none⟩ = some (.int .u8 (xs.getD j 0))

theorem BIn.cell {w w' : World} {p : Option Addr} {n : Nat} {xs : List Int} (h : BIn w p n xs) (hc : ∀ a v, w.cell? a = some v → w'.cell? a = some v) : BIn w' p n xs :=
  ⟨h.len, fun hn => by obtain ⟨b, o, e, hj⟩ := h.at' hn; exact ⟨b, o, e, fun j hj' => hc _ _ (hj j hj')⟩⟩

theorem BIn.convert {w : World} {p : Option Addr} {n : Nat} {xs : List Int} (h : BIn w p n xs) (c : Nat) : (convert 23 9 (.slice p n c)).run Ybad.prog w = .ok (.string (strOfNums xs)) w := by
  rcases Nat.eq_zero_or_pos n with hn | hn
  · subst hn
    obtain rfl : xs = [] := List.eq_nil_of_length_eq_zero h.len
    rw [run_convert_bytes_string w 23 9 5 _ 0 c Ybad.underlying23 Ybad.underlying5 Ybad.underlying9]
    cases p with
    | none => simp [Conv.bytesToString]; rfl
    | some a => simp [Conv.bytesToString, loadCells, loadCellsFrom]; rfl
  · obtain ⟨b, o, rfl, hc⟩ := h.at' hn
    exact run_convert_bytes_arg (P := Ybad.prog) w 23 5 Ybad.underlying23 Ybad.underlying5 b o n c xs h.len hc 9 Ybad.underlying9

theorem eql_slice_nil (t e : TypeId) (a : Option Addr) (l c : Nat) (h : Ybad.prog.underlying t = some (.slice e)) (w : World) : (binOp .eql t (.slice a l c) (.slice none 0 0)).run Ybad.prog w = .ok (.bool a.isNone) w := by
  simp only [binOp]
  simp [run_equal_slice_nil w t e a l c h]

set_option maxRecDepth 20000 in
theorem equal_same (p1 p2 : Option Addr) (n c m d : Nat) (xs : List Int) (w : World) (h1 : BIn w p1 n xs) (h2 : BIn w p2 m xs) :
    Calls Ybad.prog 13 #[.slice p1 n c, .slice p2 m d] w fun e w' => e = .returned (.bool true) ∧ w' = w := by
  have e1 := h1.convert c
  have e2 := h2.convert d
  clear h1 h2
  go_enter Ybad.func13, Ybad.ntmps13
  go_wp2
  go_ret
  exact ⟨rfl, rfl⟩

set_option maxRecDepth 20000 in
theorem same_self (p1 : Option Addr) (n c : Nat) (xs : List Int) (w : World) (h1 : BIn w p1 n xs) :
    Calls Ybad.prog 12 #[.slice p1 n c, .slice p1 n c] w fun e w' => e = .returned (.bool true) ∧ w' = w := by
  have hq : ∀ W : World, (binOp .eql 23 (.slice p1 n c) (.slice none 0 0)).run Ybad.prog W = .ok (.bool p1.isNone) W := eql_slice_nil 23 5 p1 n c Ybad.underlying23
  have hg : (p1.isNone == p1.isNone) = true := by simp
  go_enter Ybad.func12, Ybad.ntmps12
  go_wp2_with fail
  refine (equal_same p1 p1 n c n c xs _ h1 h1).mono ?_
  rintro e w' ⟨rfl, rfl⟩
  go_wp2
  go_ret
  exact ⟨rfl, rfl⟩

/-- the child of cell c -/
def chN (len : Nat) (zs : List Int) (c : Nat) : Nat := if c < len then (zs.getD c 0).toNat else c * 7 + 1

set_option maxRecDepth 20000 in
theorem bchild_any (a : Option Addr) (len cap c v : Nat) (zs : List Int) (w : World) (hv : v = chN len zs c) (hc : c < 400)
    (hr : c < len → ∃ b o, a = some ⟨b, o, none⟩ ∧ w.cell? ⟨b, o + c, none⟩ = some (.int .u32 (zs.getD c 0)) ∧ 0 ≤ zs.getD c 0) (hl : len ≤ 9223372036854775807) :
    Calls Ybad.prog 10 #[.slice a len cap, .int .i64 c] w fun e w' => e = .returned (.int .u32 v) ∧ w' = w := by
  by_cases h : c < len
  · obtain ⟨b, o, rfl, h1, h2⟩ := hr h
    obtain ⟨x, hx⟩ : ∃ x : Nat, zs.getD c 0 = (x : Int) := ⟨(zs.getD c 0).toNat, by omega⟩
    rw [hx] at h1
    have hv2 : v = x := by rw [hv]; simp only [chN, h, if_true, hx]; omega
    subst hv2
    clear hv hr h2 hx
    go_enter Ybad.func10, Ybad.ntmps10
    go_wp2
    go_ret
    exact ⟨rfl, rfl⟩
  · have hv2 : v = c * 7 + 1 := by rw [hv]; simp only [chN, h, if_false]
    have HV : Hid (v = c * 7 + 1) := hv2
    clear hv hr hv2
    go_enter Ybad.func10, Ybad.ntmps10
    go_wp2
    go_ret
    exact ⟨ret_int (by have := HV.out; omega), rfl⟩
end Go.Proofs.YbulkczrmDoor
