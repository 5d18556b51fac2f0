/-
  No cell of these rows narrows 'for every input' (looked for: loops, veiled, ifaces, maps, wideKeys, modest, calm, conditions, laid).
  DERIVED. THE GIVEN ROWS OF THIS SEAT. 1 by the template 'for every input the law returns true; each argument reads behind the call as it read before'; 0 by the template 'total and deterministic' (their statements: YbulkczwiTotals.lean).
  GIVEN WITH THE SEED: the statements are not yours to turn. If you find one false, say at which input.
  Laid BY PROGRAM, IN A SANDBOX (cutbox-rows.mjs): the forced cells as the released guide's own fill.sh prints them over the translation 25f36d4bf5117c90… (all of the seat's roots in one cut). By AI agents, Wed Nov 11 2026. No macro, syntax, notation, axiom, sorry.
-/
import Derived.Test.YbulkczwiChecked
import GoSem.Claim
import GoSem.ClaimJoined
import GoSem.ClaimMapViews
import Derived.JoinedTies
import Derived.KernelRfl
namespace Go.Proofs.Ybulkczwi
/- THE CELL 'sum', in the pinned program and in every row, IS THE sha256 OF THE DUMP (.gsa) THAT YbulkczwiProg.lean LOADS. Nothing in Lean hashes anything: it is a label: what it is worth is what the hold of that sum in a sandbox is worth. -/
noncomputable def Yba.pinned : Pinned := { name := "ybulkczwi", sum := "25f36d4bf5117c90185cf561eec249b12d000e22b6ce84a77913aa8c95c02b77", checked := Yba.checked }
namespace Rows
def none {H : Type} : Left H := { results := [], args := [] }

/-- 'oci.LawS5065CAttach': WHATEVER THE INPUT: true; the input reads as it did. -/
def lawS5065CAttachSpec : ChangeSpec := { name := "lawS5065CAttach", fn := fun _ => fun
  | [d1, d2, d3] => { results := [.lit (.bool true)], args := [d1, d2, d3] }
  | _ => none }
def lawS5065CAttachRow : OpenClaim := { program := "ybulkczwi", sum := "25f36d4bf5117c90185cf561eec249b12d000e22b6ce84a77913aa8c95c02b77", func := "example.com/attestry/attestry/pkg/oci.LawS5065CAttach", spec := "lawS5065CAttach", plainKeys := false, apart := false }
def LawS5065CAttachSaid : Prop := lawS5065CAttachRow.holds Yba.pinned (OpenSpec.ofChange lawS5065CAttachSpec)

/-- ITS FALSE NEIGHBOUR: 'it returns false'. Refute it at one input. -/
def lawS5065CAttachWrong : ChangeSpec := { name := "lawS5065CAttach", fn := fun _ => fun
  | [d1, d2, d3] => { results := [.lit (.bool false)], args := [d1, d2, d3] }
  | _ => none }
def LawS5065CAttachWrongFalsely : Prop := lawS5065CAttachRow.holds Yba.pinned (OpenSpec.ofChange lawS5065CAttachWrong)

end Rows
end Go.Proofs.Ybulkczwi
