/-
  NARROWER THAN 'FOR EVERY INPUT', by the rows' own cells (each row's printed sentence says how): LawS5056CModel: laid · LawS5056CAscending: laid.
  DERIVED. THE GIVEN ROWS OF THIS SEAT. 2 by the template 'for every input the law returns true; each argument reads behind the call as it read before'; 0 by the template 'total and deterministic' (their statements: YbulkczrmFmtTotals.lean).
  GIVEN WITH THE SEED: the statements are not yours to turn. If you find one false, say at which input.
  Laid BY PROGRAM, IN A SANDBOX (cutbox-rows.mjs): the forced cells as the released guide's own fill.sh prints them over the translation 848b375175fae6ba… (all of the seat's roots in one cut). By AI agents, Wed Nov 11 2026. No macro, syntax, notation, axiom, sorry.
-/
import Derived.Test.YbulkczrmFmtChecked
import GoSem.Claim
import GoSem.ClaimJoined
import GoSem.ClaimMapViews
import Derived.JoinedTies
import Derived.KernelRfl
namespace Go.Proofs.YbulkczrmFmt
/- THE CELL 'sum', in the pinned program and in every row, IS THE sha256 OF THE DUMP (.gsa) THAT YbulkczrmFmtProg.lean LOADS. Nothing in Lean hashes anything: it is a label: what it is worth is what the hold of that sum in a sandbox is worth. -/
noncomputable def Ybaf.pinned : Pinned := { name := "ybulkczrmfmt", sum := "848b375175fae6ba97850adabdbdb6fa6a118f1c5e043db1ed670f7aa4c491eb", checked := Ybaf.checked }
namespace Rows
def none {H : Type} : Left H := { results := [], args := [] }

/- WHAT THE LISTED PACKAGE-LEVEL VARIABLES READ AS WHEN THE CALL BEGINS. Each datum BY PROGRAM (the guide's laid-datum.mjs) off the statement by which the dump's own 'gosem.cut.vars' lays the variable. In a bare row this is a premise. The card (YbulkczrmFmtCards.lean) ties it to the program's text. -/
def laid_example_com_broadleaf_broadleaf_pageKinds {H : Type} : DataW H := .agg [.agg [.lit (.string []), .lit (.string []), .lit (.string []), .lit (.int .i64 0)], .agg [.lit (.string [108, 101, 97, 102]), .lit (.string [112, 97, 105, 114]), .lit (.string [112, 97, 105, 114, 115]), .lit (.int .i64 4)], .agg [.lit (.string [105, 110, 116, 101, 114, 110, 97, 108]), .lit (.string [99, 104, 105, 108, 100]), .lit (.string [99, 104, 105, 108, 100, 114, 101, 110]), .lit (.int .i64 6)]]

/-- 'broadleaf.LawS5056CModel': WHATEVER THE INPUT: true; the input reads as it did. -/
def lawS5056CModelSpec : ChangeSpec := { name := "lawS5056CModel", vars := ["example.com/broadleaf/broadleaf.pageKinds"], fn := fun _ => fun
  | [d1, d2, d3, d4, d5, d6, g1] => { results := [.lit (.bool true)], args := [d1, d2, d3, d4, d5, d6], vars := [g1] }
  | _ => none }
def lawS5056CModelRow : OpenClaim := { program := "ybulkczrmfmt", sum := "848b375175fae6ba97850adabdbdb6fa6a118f1c5e043db1ed670f7aa4c491eb", func := "example.com/broadleaf/broadleaf.LawS5056CModel", spec := "lawS5056CModel", stops := ["fmt.errorf"], inPlace := ["internal/bytealg.MakeNoZero", "fmt.errorf", "internal/bytealg.Compare"], unfollowed := true, recurses := true, named := ["example.com/broadleaf/broadleaf.pageKinds", "encoding/binary.LittleEndian"], apart := false, laid := [("example.com/broadleaf/broadleaf.pageKinds", laid_example_com_broadleaf_broadleaf_pageKinds)] }
/-- NO THEOREM (fmt's text is open here; it may be false): for the released tool's asking of the row's closed facts alone. THE STATEMENT IS 'LawS5056CModelToldSaid' (YbulkczrmFmtCards.lean). -/
def LawS5056CModelFormAsk : Prop := lawS5056CModelRow.holds Ybaf.pinned (OpenSpec.ofChange lawS5056CModelSpec)

/-- ITS FALSE NEIGHBOUR: 'it returns false'. Refute it at one input. -/
def lawS5056CModelWrong : ChangeSpec := { name := "lawS5056CModel", vars := ["example.com/broadleaf/broadleaf.pageKinds"], fn := fun _ => fun
  | [d1, d2, d3, d4, d5, d6, g1] => { results := [.lit (.bool false)], args := [d1, d2, d3, d4, d5, d6], vars := [g1] }
  | _ => none }
def LawS5056CModelWrongFormAsk : Prop := lawS5056CModelRow.holds Ybaf.pinned (OpenSpec.ofChange lawS5056CModelWrong)

/-- 'broadleaf.LawS5056CAscending': WHATEVER THE INPUT: true; the input reads as it did. -/
def lawS5056CAscendingSpec : ChangeSpec := { name := "lawS5056CAscending", vars := ["example.com/broadleaf/broadleaf.pageKinds"], fn := fun _ => fun
  | [d1, d2, g1] => { results := [.lit (.bool true)], args := [d1, d2], vars := [g1] }
  | _ => none }
def lawS5056CAscendingRow : OpenClaim := { program := "ybulkczrmfmt", sum := "848b375175fae6ba97850adabdbdb6fa6a118f1c5e043db1ed670f7aa4c491eb", func := "example.com/broadleaf/broadleaf.LawS5056CAscending", spec := "lawS5056CAscending", stops := ["fmt.errorf"], inPlace := ["fmt.errorf", "internal/bytealg.Compare"], unfollowed := true, recurses := true, named := ["example.com/broadleaf/broadleaf.pageKinds", "encoding/binary.LittleEndian"], apart := false, laid := [("example.com/broadleaf/broadleaf.pageKinds", laid_example_com_broadleaf_broadleaf_pageKinds)] }
/-- NO THEOREM (fmt's text is open here; it may be false): for the released tool's asking of the row's closed facts alone. THE STATEMENT IS 'LawS5056CAscendingToldSaid' (YbulkczrmFmtCards.lean). -/
def LawS5056CAscendingFormAsk : Prop := lawS5056CAscendingRow.holds Ybaf.pinned (OpenSpec.ofChange lawS5056CAscendingSpec)

/-- ITS FALSE NEIGHBOUR: 'it returns false'. Refute it at one input. -/
def lawS5056CAscendingWrong : ChangeSpec := { name := "lawS5056CAscending", vars := ["example.com/broadleaf/broadleaf.pageKinds"], fn := fun _ => fun
  | [d1, d2, g1] => { results := [.lit (.bool false)], args := [d1, d2], vars := [g1] }
  | _ => none }
def LawS5056CAscendingWrongFormAsk : Prop := lawS5056CAscendingRow.holds Ybaf.pinned (OpenSpec.ofChange lawS5056CAscendingWrong)

end Rows
end Go.Proofs.YbulkczrmFmt
