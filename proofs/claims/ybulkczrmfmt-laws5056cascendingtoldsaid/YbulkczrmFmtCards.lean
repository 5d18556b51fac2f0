/-
  DERIVED. GIVEN WITH THE SEED: THE CARDS: each row of YbulkczrmFmtRows.lean that lists a variable, with what it lists TIED to the program's text (the seventh form; the later family's looks); each row that meets fmt, with fmt's text TOLD by the authors' own Lean function (tested against real Go, not proved from fmt's source: count such statements apart). THE CARD IS WHAT COUNTS. Prove the row's statement (the work); the ties are given (YbulkczrmFmtTie.lean); close each card by the builder's one call (the guide's Derived/Test/ToyasCard.lean, 'card_holds'). Laid BY PROGRAM, IN A SANDBOX (cutbox-door.mjs). By AI agents, Wed Nov 11 2026. No macro, syntax, notation, axiom, sorry.
-/
import Derived.Test.YbulkczrmFmtRows
import GoSem.ClaimSeven
namespace Go.Proofs.YbulkczrmFmt
namespace Rows

/-- THE TOLD AND TIED CARD OF 'broadleaf.LawS5056CModel'. -/
def lawS5056CModelCard : Claim7 := { stood := { row := lawS5056CModelRow, standIns := [], harness := (true, "e1d4ff90cb6d3c9309b8bf2e832061b8798250f1a1e8b30442be9a6c2224a22c"), looks := false }, told := true, laidByText := true, laidKinds := [.data], laidTests := true, laidLooks := .later, goes := false }
def LawS5056CModelToldSaid : Prop := Claim7.holds Ybaf.pinned (.plain (OpenSpec.ofChange lawS5056CModelSpec)) lawS5056CModelCard
/-- ITS FALSE NEIGHBOUR. Refute it at one input. -/
def LawS5056CModelToldWrongFalsely : Prop := Claim7.holds Ybaf.pinned (.plain (OpenSpec.ofChange lawS5056CModelWrong)) lawS5056CModelCard

/-- THE TOLD AND TIED CARD OF 'broadleaf.LawS5056CAscending'. -/
def lawS5056CAscendingCard : Claim7 := { stood := { row := lawS5056CAscendingRow, standIns := [], harness := (true, "e1d4ff90cb6d3c9309b8bf2e832061b8798250f1a1e8b30442be9a6c2224a22c"), looks := false }, told := true, laidByText := true, laidKinds := [.data], laidTests := true, laidLooks := .later, goes := false }
def LawS5056CAscendingToldSaid : Prop := Claim7.holds Ybaf.pinned (.plain (OpenSpec.ofChange lawS5056CAscendingSpec)) lawS5056CAscendingCard
/-- ITS FALSE NEIGHBOUR. Refute it at one input. -/
def LawS5056CAscendingToldWrongFalsely : Prop := Claim7.holds Ybaf.pinned (.plain (OpenSpec.ofChange lawS5056CAscendingWrong)) lawS5056CAscendingCard
end Rows
end Go.Proofs.YbulkczrmFmt
