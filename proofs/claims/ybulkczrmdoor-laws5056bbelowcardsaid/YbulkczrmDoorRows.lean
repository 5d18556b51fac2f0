/-
  NARROWER THAN 'FOR EVERY INPUT', by the rows' own cells (each row's printed sentence says how): LawS5056AReads: ifaces, laid · LawS5056ASpare: ifaces, laid · LawS5056BBelow: laid.
  DERIVED. THE GIVEN ROWS OF THIS SEAT. 3 by the template 'for every input the law returns true; each argument reads behind the call as it read before'; 0 by the template 'total and deterministic' (their statements: YbulkczrmDoorTotals.lean).
  GIVEN WITH THE SEED: the statements are not yours to turn. If you find one false, say at which input.
  Laid BY PROGRAM, IN A SANDBOX (cutbox-rows.mjs): the forced cells as the released guide's own fill.sh prints them over the translation c34004a24384d570… (all of the seat's roots in one cut). By AI agents, Wed Nov 11 2026. No macro, syntax, notation, axiom, sorry.
-/
import Derived.Test.YbulkczrmDoorChecked
import GoSem.Claim
import GoSem.ClaimJoined
import GoSem.ClaimMapViews
import Derived.JoinedTies
import Derived.KernelRfl
namespace Go.Proofs.YbulkczrmDoor
/- THE CELL 'sum', in the pinned program and in every row, IS THE sha256 OF THE DUMP (.gsa) THAT YbulkczrmDoorProg.lean LOADS. Nothing in Lean hashes anything: it is a label: what it is worth is what the hold of that sum in a sandbox is worth. -/
noncomputable def Ybad.pinned : Pinned := { name := "ybulkczrmdoor", sum := "c34004a24384d57012077c880dc6414b9b1a3e69fa26a9f5d76253214bc9935e", checked := Ybad.checked }
namespace Rows
def none {H : Type} : Left H := { results := [], args := [] }

/- WHAT THE LISTED PACKAGE-LEVEL VARIABLES READ AS WHEN THE CALL BEGINS. Each datum BY PROGRAM (the guide's laid-datum.mjs) off the statement by which the dump's own 'gosem.cut.vars' lays the variable. In a bare row this is a premise. The card (YbulkczrmDoorCards.lean) ties it to the program's text. -/
def laid_io_EOF {H : Type} : DataW H := .iface "*errors.errorString" (.ptr (.agg [.lit (.string [69, 79, 70])]))
def laid_example_com_broadleaf_broadleaf_errPastEnd {H : Type} : DataW H := .iface "*errors.errorString" (.ptr (.agg [.lit (.string [112, 97, 115, 116, 32, 116, 104, 101, 32, 101, 110, 100, 32, 111, 102, 32, 116, 104, 101, 32, 102, 105, 108, 101])]))
def laid_example_com_broadleaf_broadleaf_pageKinds {H : Type} : DataW H := .agg [.agg [.lit (.string []), .lit (.string []), .lit (.string []), .lit (.int .i64 0)], .agg [.lit (.string [108, 101, 97, 102]), .lit (.string [112, 97, 105, 114]), .lit (.string [112, 97, 105, 114, 115]), .lit (.int .i64 4)], .agg [.lit (.string [105, 110, 116, 101, 114, 110, 97, 108]), .lit (.string [99, 104, 105, 108, 100]), .lit (.string [99, 104, 105, 108, 100, 114, 101, 110]), .lit (.int .i64 6)]]

/-- 'broadleaf.LawS5056AReads': WHATEVER THE INPUT: true; the input reads as it did. -/
def lawS5056AReadsSpec : ChangeSpec := { name := "lawS5056AReads", vars := ["example.com/broadleaf/broadleaf.errPastEnd"], fn := fun _ => fun
  | [d1, d2, d3, d4, d5, g1] => { results := [.lit (.bool true)], args := [d1, d2, d3, d4, d5], vars := [g1] }
  | _ => none }
def lawS5056AReadsRow : OpenClaim := { program := "ybulkczrmdoor", sum := "c34004a24384d57012077c880dc6414b9b1a3e69fa26a9f5d76253214bc9935e", func := "example.com/broadleaf/broadleaf.LawS5056AReads", spec := "lawS5056AReads", unfollowed := true, recurses := true, named := ["example.com/broadleaf/broadleaf.errPastEnd", "io.EOF"], ifaces := true, apart := false, laid := [("io.EOF", laid_io_EOF), ("example.com/broadleaf/broadleaf.errPastEnd", laid_example_com_broadleaf_broadleaf_errPastEnd)] }
def LawS5056AReadsSaid : Prop := lawS5056AReadsRow.holds Ybad.pinned (OpenSpec.ofChange lawS5056AReadsSpec)

/-- ITS FALSE NEIGHBOUR: 'it returns false'. Refute it at one input. -/
def lawS5056AReadsWrong : ChangeSpec := { name := "lawS5056AReads", vars := ["example.com/broadleaf/broadleaf.errPastEnd"], fn := fun _ => fun
  | [d1, d2, d3, d4, d5, g1] => { results := [.lit (.bool false)], args := [d1, d2, d3, d4, d5], vars := [g1] }
  | _ => none }
def LawS5056AReadsWrongFalsely : Prop := lawS5056AReadsRow.holds Ybad.pinned (OpenSpec.ofChange lawS5056AReadsWrong)

/-- 'broadleaf.LawS5056ASpare': WHATEVER THE INPUT: true; the input reads as it did. -/
def lawS5056ASpareSpec : ChangeSpec := { name := "lawS5056ASpare", vars := ["example.com/broadleaf/broadleaf.errPastEnd"], fn := fun _ => fun
  | [d1, d2, d3, d4, g1] => { results := [.lit (.bool true)], args := [d1, d2, d3, d4], vars := [g1] }
  | _ => none }
def lawS5056ASpareRow : OpenClaim := { program := "ybulkczrmdoor", sum := "c34004a24384d57012077c880dc6414b9b1a3e69fa26a9f5d76253214bc9935e", func := "example.com/broadleaf/broadleaf.LawS5056ASpare", spec := "lawS5056ASpare", unfollowed := true, recurses := true, named := ["io.EOF", "example.com/broadleaf/broadleaf.errPastEnd"], ifaces := true, apart := false, laid := [("io.EOF", laid_io_EOF), ("example.com/broadleaf/broadleaf.errPastEnd", laid_example_com_broadleaf_broadleaf_errPastEnd)] }
def LawS5056ASpareSaid : Prop := lawS5056ASpareRow.holds Ybad.pinned (OpenSpec.ofChange lawS5056ASpareSpec)

/-- ITS FALSE NEIGHBOUR: 'it returns false'. Refute it at one input. -/
def lawS5056ASpareWrong : ChangeSpec := { name := "lawS5056ASpare", vars := ["example.com/broadleaf/broadleaf.errPastEnd"], fn := fun _ => fun
  | [d1, d2, d3, d4, g1] => { results := [.lit (.bool false)], args := [d1, d2, d3, d4], vars := [g1] }
  | _ => none }
def LawS5056ASpareWrongFalsely : Prop := lawS5056ASpareRow.holds Ybad.pinned (OpenSpec.ofChange lawS5056ASpareWrong)

/-- 'broadleaf.LawS5056BBelow': WHATEVER THE INPUT: true; the input reads as it did. -/
def lawS5056BBelowSpec : ChangeSpec := { name := "lawS5056BBelow", vars := ["example.com/broadleaf/broadleaf.pageKinds"], fn := fun _ => fun
  | [d1, d2, d3, d4, d5, d6, d7, g1] => { results := [.lit (.bool true)], args := [d1, d2, d3, d4, d5, d6, d7], vars := [g1] }
  | _ => none }
def lawS5056BBelowRow : OpenClaim := { program := "ybulkczrmdoor", sum := "c34004a24384d57012077c880dc6414b9b1a3e69fa26a9f5d76253214bc9935e", func := "example.com/broadleaf/broadleaf.LawS5056BBelow", spec := "lawS5056BBelow", named := ["encoding/binary.LittleEndian", "example.com/broadleaf/broadleaf.pageKinds"], apart := false, laid := [("example.com/broadleaf/broadleaf.pageKinds", laid_example_com_broadleaf_broadleaf_pageKinds)] }
def LawS5056BBelowSaid : Prop := lawS5056BBelowRow.holds Ybad.pinned (OpenSpec.ofChange lawS5056BBelowSpec)

/-- ITS FALSE NEIGHBOUR: 'it returns false'. Refute it at one input. -/
def lawS5056BBelowWrong : ChangeSpec := { name := "lawS5056BBelow", vars := ["example.com/broadleaf/broadleaf.pageKinds"], fn := fun _ => fun
  | [d1, d2, d3, d4, d5, d6, d7, g1] => { results := [.lit (.bool false)], args := [d1, d2, d3, d4, d5, d6, d7], vars := [g1] }
  | _ => none }
def LawS5056BBelowWrongFalsely : Prop := lawS5056BBelowRow.holds Ybad.pinned (OpenSpec.ofChange lawS5056BBelowWrong)

end Rows
end Go.Proofs.YbulkczrmDoor
