/-
  No cell of these rows narrows 'for every input' (looked for: loops, veiled, ifaces, maps, wideKeys, modest, calm, conditions, laid).
  DERIVED. THE GIVEN ROWS OF THIS SEAT. 2 by the template 'for every input the law returns true; each argument reads behind the call as it read before'; 0 by the template 'total and deterministic' (their statements: YbulkczvgTotals.lean).
  GIVEN WITH THE SEED: the statements are not yours to turn. If you find one false, say at which input.
  Laid BY PROGRAM, IN A SANDBOX (cutbox-rows.mjs): the forced cells as the released guide's own fill.sh prints them over the translation 92d9c8bd0a76fd7b… (all of the seat's roots in one cut). By AI agents, Wed Nov 11 2026. No macro, syntax, notation, axiom, sorry.
-/
import Derived.Test.YbulkczvgChecked
import GoSem.Claim
import GoSem.ClaimJoined
import GoSem.ClaimMapViews
import Derived.JoinedTies
import Derived.KernelRfl
namespace Go.Proofs.Ybulkczvg
/- THE CELL 'sum', in the pinned program and in every row, IS THE sha256 OF THE DUMP (.gsa) THAT YbulkczvgProg.lean LOADS. Nothing in Lean hashes anything: it is a label: what it is worth is what the hold of that sum in a sandbox is worth. -/
noncomputable def Yba.pinned : Pinned := { name := "ybulkczvg", sum := "92d9c8bd0a76fd7bda8bd3b07d00d4b3b37aa8ddfd55758c22d2a702b381c0b5", checked := Yba.checked }
namespace Rows
def none {H : Type} : Left H := { results := [], args := [] }

/-- 'terrace.LawS5063APaths': WHATEVER THE INPUT: true; the input reads as it did. -/
def lawS5063APathsSpec : ChangeSpec := { name := "lawS5063APaths", fn := fun _ => fun
  | [d1, d2, d3, d4, d5] => { results := [.lit (.bool true)], args := [d1, d2, d3, d4, d5] }
  | _ => none }
def lawS5063APathsRow : OpenClaim := { program := "ybulkczvg", sum := "92d9c8bd0a76fd7bda8bd3b07d00d4b3b37aa8ddfd55758c22d2a702b381c0b5", func := "example.com/terrace/terrace.LawS5063APaths", spec := "lawS5063APaths", apart := false }
def LawS5063APathsSaid : Prop := lawS5063APathsRow.holds Yba.pinned (OpenSpec.ofChange lawS5063APathsSpec)

/-- ITS FALSE NEIGHBOUR: 'it returns false'. Refute it at one input. -/
def lawS5063APathsWrong : ChangeSpec := { name := "lawS5063APaths", fn := fun _ => fun
  | [d1, d2, d3, d4, d5] => { results := [.lit (.bool false)], args := [d1, d2, d3, d4, d5] }
  | _ => none }
def LawS5063APathsWrongFalsely : Prop := lawS5063APathsRow.holds Yba.pinned (OpenSpec.ofChange lawS5063APathsWrong)

/-- 'terrace.LawS5063AFresh': WHATEVER THE INPUT: true; the input reads as it did. -/
def lawS5063AFreshSpec : ChangeSpec := { name := "lawS5063AFresh", fn := fun _ => fun
  | [d1, d2] => { results := [.lit (.bool true)], args := [d1, d2] }
  | _ => none }
def lawS5063AFreshRow : OpenClaim := { program := "ybulkczvg", sum := "92d9c8bd0a76fd7bda8bd3b07d00d4b3b37aa8ddfd55758c22d2a702b381c0b5", func := "example.com/terrace/terrace.LawS5063AFresh", spec := "lawS5063AFresh", apart := false }
def LawS5063AFreshSaid : Prop := lawS5063AFreshRow.holds Yba.pinned (OpenSpec.ofChange lawS5063AFreshSpec)

/-- ITS FALSE NEIGHBOUR: 'it returns false'. Refute it at one input. -/
def lawS5063AFreshWrong : ChangeSpec := { name := "lawS5063AFresh", fn := fun _ => fun
  | [d1, d2] => { results := [.lit (.bool false)], args := [d1, d2] }
  | _ => none }
def LawS5063AFreshWrongFalsely : Prop := lawS5063AFreshRow.holds Yba.pinned (OpenSpec.ofChange lawS5063AFreshWrong)

end Rows
end Go.Proofs.Ybulkczvg
