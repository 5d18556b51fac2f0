import Derived.Test.YbulkczrmDoorRows
import Derived.ProofKit
import Derived.LaidMore
import Derived.OpenShut
import Derived.ShutString
import Derived.ChangeOld
import Derived.Below
import Derived.WalkSmall
import Derived.Stop.Joined
import Derived.Stop.LaidErr
namespace Go.Proofs.YbulkczrmDoor
open Go.ChangeShapes Go.WideShapes Go.ChangeAt Go.RowKit

theorem own : ownKnob Ybad.prog.godebug = none := by kernel_rfl
theorem laidOut : laidOutB Ybad.prog = true := by kernel_rfl
/-- the name of the variable errPastEnd, as the row spells it -/
abbrev pastName : String := Rows.lawS5056AReadsSpec.vars.headD ""
/-- the name of the type behind errors.New, as the row spells it -/
def errName : String := match (Rows.laid_io_EOF : DataW Unit) with
  | .iface n _ => n
  | _ => ""
theorem gPast : Ybad.prog.globalNamed pastName = some 0 := by kernel_rfl
theorem gEOF : Ybad.prog.globalNamed "io.EOF" = some 2 := by kernel_rfl
theorem tPast : (Ybad.prog.globals[0]?).map (·.type) = some 28 := by kernel_rfl
theorem tEOF : (Ybad.prog.globals[2]?).map (·.type) = some 28 := by kernel_rfl
theorem cells83 : Ybad.prog.cellsOf 83 = 1 := by kernel_rfl
theorem cells9 : Ybad.prog.cellsOf 9 = 1 := by kernel_rfl
theorem row81 (u : TypeId) (h : Ybad.prog.typeName? 3 u = some errName) : u = 81 :=
  typeName_ptr_named (nm := "errors.errorString") (by kernel_rfl) (by kernel_rfl) (by decide) u (h.trans (congrArg some (by kernel_rfl)))

abbrev laid2 : List (String × DataW Unit) := [("io.EOF", Rows.laid_io_EOF), (pastName, Rows.laid_example_com_broadleaf_broadleaf_errPastEnd)]

theorem door_met (os : Os) (args : Array Value) : laidMetH Ybad.prog laid2 ((World.doorLaid Ybad.prog 54 os).forCall (fun _ _ => 0) ⟨#[], args, []⟩).memory :=
  laidMetH_of_parts3 (fuel := 8) (laidMet_of_run' 8 (by kernel_rfl) (by kernel_rfl)) (by kernel_rfl) (by kernel_rfl)

/-- WHAT THE CONDITION GIVES THE WALKS: the two sentinels. -/
theorem of_laid {W : World} (h : laidMetH Ybad.prog laid2 W) : ∃ aE aP : Addr, W.var? Ybad.prog "io.EOF" = some #[.iface 81 (.pointer (some aE))] ∧ W.var? Ybad.prog pastName = some #[.iface 81 (.pointer (some aP))] ∧
    W.cell? ⟨2, 0, none⟩ = some (.iface 81 (.pointer (some aE))) ∧ W.cell? ⟨0, 0, none⟩ = some (.iface 81 (.pointer (some aP))) ∧ ∃ s, W.cell? aE = some (.string s) := by
  rw [MakeChecks.laidMetH_plain _ _ _ (by kernel_rfl)] at h
  obtain ⟨aE, s0, hv0, hc0, hs0, hz0⟩ := laid_sentinel h gEOF tEOF Ybad.underlying28 row81 Ybad.underlying81 Ybad.underlying83 rfl rfl Ybad.underlying9 cells83 cells9
  obtain ⟨aP, s1, hv1, hc1, hs1, hz1⟩ := laid_sentinel h.tail gPast tPast Ybad.underlying28 row81 Ybad.underlying81 Ybad.underlying83 rfl rfl Ybad.underlying9 cells83 cells9
  exact ⟨aE, aP, hv0, hv1, by simpa using World.var?_cell gEOF hv0 0, by simpa using World.var?_cell gPast hv1 0, s0, hc0⟩
end Go.Proofs.YbulkczrmDoor
