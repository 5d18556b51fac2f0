/-
  DERIVED. GIVEN WITH THE SEED: THE CARDS: each row of YbulkczrmDoorRows.lean that lists a variable, with what it lists TIED to the program's text (the seventh form; the later family's looks); each row that meets fmt, with fmt's text TOLD by the authors' own Lean function (tested against real Go, not proved from fmt's source: count such statements apart). THE CARD IS WHAT COUNTS. Prove the row's statement (the work); the ties are given (YbulkczrmDoorTie.lean); close each card by the builder's one call (the guide's Derived/Test/ToyasCard.lean, 'card_holds'). Laid BY PROGRAM, IN A SANDBOX (cutbox-door.mjs). By AI agents, Wed Nov 11 2026. No macro, syntax, notation, axiom, sorry.
-/
import Derived.Test.YbulkczrmDoorRows
import GoSem.ClaimSeven
namespace Go.Proofs.YbulkczrmDoor
namespace Rows

/-- THE TIED CARD OF 'broadleaf.LawS5056AReads'. -/
def lawS5056AReadsCard : Claim7 := { stood := { row := lawS5056AReadsRow, standIns := [], harness := (true, "8a1ea01bb0a1fc4a89863cccdad7cef72bbaf38109a01878569ec997909e1a84"), looks := true }, kinds := [], alts := [], laidByText := true, laidKinds := [.sentinel, .sentinel], laidTests := true, laidLooks := .later }
def LawS5056AReadsCardSaid : Prop := Claim7.holds Ybad.pinned (.plain (OpenSpec.ofChange lawS5056AReadsSpec)) lawS5056AReadsCard

/-- THE TIED CARD OF 'broadleaf.LawS5056ASpare'. -/
def lawS5056ASpareCard : Claim7 := { stood := { row := lawS5056ASpareRow, standIns := [], harness := (true, "8a1ea01bb0a1fc4a89863cccdad7cef72bbaf38109a01878569ec997909e1a84"), looks := true }, kinds := [], alts := [], laidByText := true, laidKinds := [.sentinel, .sentinel], laidTests := true, laidLooks := .later }
def LawS5056ASpareCardSaid : Prop := Claim7.holds Ybad.pinned (.plain (OpenSpec.ofChange lawS5056ASpareSpec)) lawS5056ASpareCard

/-- THE TIED CARD OF 'broadleaf.LawS5056BBelow'. -/
def lawS5056BBelowCard : Claim7 := { stood := { row := lawS5056BBelowRow, standIns := [], harness := (true, "8a1ea01bb0a1fc4a89863cccdad7cef72bbaf38109a01878569ec997909e1a84"), looks := true }, kinds := [], alts := [], laidByText := true, laidKinds := [.data], laidTests := true, laidLooks := .later }
def LawS5056BBelowCardSaid : Prop := Claim7.holds Ybad.pinned (.plain (OpenSpec.ofChange lawS5056BBelowSpec)) lawS5056BBelowCard
end Rows
end Go.Proofs.YbulkczrmDoor
