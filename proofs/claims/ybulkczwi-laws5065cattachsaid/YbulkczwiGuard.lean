import Derived.Test.YbulkczwiIn
namespace Go.Proofs.Ybulkczwi
open Go.RowKit
set_option linter.unusedVariables false
set_option linter.unusedSimpArgs false

set_option maxRecDepth 40000 in
theorem law_g1 (w : World) (a0 a1 a2 : Option Addr) (n c0 np c1 m c2 : Nat) (h : 300 < n) :
    Calls Yba.prog 3 #[.slice a0 n c0, .slice a1 np c1, .slice a2 m c2] w fun e w' => e = .returned (.bool true) ∧ Below w.heap.size w w' := by
  have h1 : decide ((300 : Int) < (n : Int)) = true := by simp; omega
  go_enter Yba.func3, Yba.ntmps3
  go_wp2
  go_ret
  exact ⟨rfl, Below.refl _ _⟩
set_option maxRecDepth 40000 in
theorem law_g2 (w : World) (a0 a1 a2 : Option Addr) (n c0 np c1 m c2 : Nat) (h : ¬ 300 < n) (h2 : 1024 < np) :
    Calls Yba.prog 3 #[.slice a0 n c0, .slice a1 np c1, .slice a2 m c2] w fun e w' => e = .returned (.bool true) ∧ Below w.heap.size w w' := by
  have h1 : decide ((300 : Int) < (n : Int)) = false := by simp; omega
  have h3 : decide ((1024 : Int) < (np : Int)) = true := by simp; omega
  go_enter Yba.func3, Yba.ntmps3
  go_wp2
  go_ret
  exact ⟨rfl, Below.refl _ _⟩
set_option maxRecDepth 40000 in
theorem law_g3 (w : World) (a0 a1 a2 : Option Addr) (n c0 np c1 m c2 : Nat) (h : ¬ 300 < n) (h2 : ¬ 1024 < np) (h4 : 1024 < m) :
    Calls Yba.prog 3 #[.slice a0 n c0, .slice a1 np c1, .slice a2 m c2] w fun e w' => e = .returned (.bool true) ∧ Below w.heap.size w w' := by
  have h1 : decide ((300 : Int) < (n : Int)) = false := by simp; omega
  have h3 : decide ((1024 : Int) < (np : Int)) = false := by simp; omega
  have h5 : decide ((1024 : Int) < (m : Int)) = true := by simp; omega
  go_enter Yba.func3, Yba.ntmps3
  go_wp2
  go_ret
  exact ⟨rfl, Below.refl _ _⟩
end Go.Proofs.Ybulkczwi
