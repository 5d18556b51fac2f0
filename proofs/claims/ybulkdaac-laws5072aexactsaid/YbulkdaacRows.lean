/-
  No cell of these rows narrows 'for every input' (looked for: loops, veiled, ifaces, maps, wideKeys, modest, calm, conditions, laid).
  DERIVED. THE GIVEN ROWS OF THIS SEAT. 1 by the template 'for every input the law returns true; each argument reads behind the call as it read before'; 0 by the template 'total and deterministic' (their statements: YbulkdaacTotals.lean).
  GIVEN WITH THE SEED: the statements are not yours to turn. If you find one false, say at which input.
  Laid BY PROGRAM, IN A SANDBOX (cutbox-rows.mjs): the forced cells as the released guide's own fill.sh prints them over the translation c4cfdef1c3f10776… (all of the seat's roots in one cut). By AI agents, Wed Nov 11 2026. No macro, syntax, notation, axiom, sorry.
-/
import Derived.Test.YbulkdaacChecked
import GoSem.Claim
import GoSem.ClaimJoined
import GoSem.ClaimMapViews
import Derived.JoinedTies
import Derived.KernelRfl
namespace Go.Proofs.Ybulkdaac
/- THE CELL 'sum', in the pinned program and in every row, IS THE sha256 OF THE DUMP (.gsa) THAT YbulkdaacProg.lean LOADS. Nothing in Lean hashes anything: it is a label: what it is worth is what the hold of that sum in a sandbox is worth. -/
noncomputable def Yba.pinned : Pinned := { name := "ybulkdaac", sum := "c4cfdef1c3f107766c2c9118ab290952ce20d419c19942a7d4dd7b7c4bedad59", checked := Yba.checked }
namespace Rows
def none {H : Type} : Left H := { results := [], args := [] }

/-- 'spokewire.LawS5072AExact': WHATEVER THE INPUT: true; the input reads as it did. -/
def lawS5072AExactSpec : ChangeSpec := { name := "lawS5072AExact", fn := fun _ => fun
  | [d1, d2, d3, d4, d5, d6, d7] => { results := [.lit (.bool true)], args := [d1, d2, d3, d4, d5, d6, d7] }
  | _ => none }
def lawS5072AExactRow : OpenClaim := { program := "ybulkdaac", sum := "c4cfdef1c3f107766c2c9118ab290952ce20d419c19942a7d4dd7b7c4bedad59", func := "example.com/spokewire/spokewire.LawS5072AExact", spec := "lawS5072AExact", apart := false }
def LawS5072AExactSaid : Prop := lawS5072AExactRow.holds Yba.pinned (OpenSpec.ofChange lawS5072AExactSpec)

/-- ITS FALSE NEIGHBOUR: 'it returns false'. Refute it at one input. -/
def lawS5072AExactWrong : ChangeSpec := { name := "lawS5072AExact", fn := fun _ => fun
  | [d1, d2, d3, d4, d5, d6, d7] => { results := [.lit (.bool false)], args := [d1, d2, d3, d4, d5, d6, d7] }
  | _ => none }
def LawS5072AExactWrongFalsely : Prop := lawS5072AExactRow.holds Yba.pinned (OpenSpec.ofChange lawS5072AExactWrong)

end Rows
end Go.Proofs.Ybulkdaac
