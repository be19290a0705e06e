/-
  No cell of these rows narrows 'for every input' (looked for: loops, veiled, ifaces, maps, wideKeys, modest, calm, conditions, laid).
  DERIVED. THE GIVEN ROWS OF THIS SEAT. 2 by the template 'for every input the law returns true; each argument reads behind the call as it read before'; 0 by the template 'total and deterministic' (their statements: YbulkbqnsTotals.lean).
  GIVEN WITH THE SEED: the statements are not yours to turn. If you find one false, say at which input.
  Laid BY PROGRAM, IN A SANDBOX (cutbox-rows.mjs): the forced cells as the released guide's own fill.sh prints them over the translation 3803dd58b90a06be… (all of the seat's roots in one cut). By AI agents, Wed Nov 11 2026. No macro, syntax, notation, axiom, sorry.
-/
import Derived.Test.YbulkbqnsChecked
import GoSem.Claim
import GoSem.ClaimJoined
import GoSem.ClaimMapViews
import Derived.JoinedTies
import Derived.KernelRfl
namespace Go.Proofs.Ybulkbqns
/- THE CELL 'sum', in the pinned program and in every row, IS THE sha256 OF THE DUMP (.gsa) THAT YbulkbqnsProg.lean LOADS. Nothing in Lean hashes anything: it is a label: what it is worth is what the hold of that sum in a sandbox is worth. -/
noncomputable def Yba.pinned : Pinned := { name := "ybulkbqns", sum := "3803dd58b90a06be8c013adc8a9847e6f70dc24e65b960a87bb4463d8f64fadd", checked := Yba.checked }
namespace Rows
def none {H : Type} : Left H := { results := [], args := [] }

/-- 'policy.LawS3359AExact': WHATEVER THE INPUT: true; the input reads as it did. -/
def lawS3359AExactSpec : ChangeSpec := { name := "lawS3359AExact", fn := fun _ => fun
  | [d1, d2, d3, d4] => { results := [.lit (.bool true)], args := [d1, d2, d3, d4] }
  | _ => none }
def lawS3359AExactRow : OpenClaim := { program := "ybulkbqns", sum := "3803dd58b90a06be8c013adc8a9847e6f70dc24e65b960a87bb4463d8f64fadd", func := "example.com/routewright/routewright/policy.LawS3359AExact", spec := "lawS3359AExact", apart := false }
def LawS3359AExactSaid : Prop := lawS3359AExactRow.holds Yba.pinned (OpenSpec.ofChange lawS3359AExactSpec)

/-- ITS FALSE NEIGHBOUR: 'it returns false'. Refute it at one input. -/
def lawS3359AExactWrong : ChangeSpec := { name := "lawS3359AExact", fn := fun _ => fun
  | [d1, d2, d3, d4] => { results := [.lit (.bool false)], args := [d1, d2, d3, d4] }
  | _ => none }
def LawS3359AExactWrongFalsely : Prop := lawS3359AExactRow.holds Yba.pinned (OpenSpec.ofChange lawS3359AExactWrong)

/-- 'policy.LawS3359AAssoc': WHATEVER THE INPUT: true; the input reads as it did. -/
def lawS3359AAssocSpec : ChangeSpec := { name := "lawS3359AAssoc", fn := fun _ => fun
  | [d1, d2, d3, d4, d5, d6] => { results := [.lit (.bool true)], args := [d1, d2, d3, d4, d5, d6] }
  | _ => none }
def lawS3359AAssocRow : OpenClaim := { program := "ybulkbqns", sum := "3803dd58b90a06be8c013adc8a9847e6f70dc24e65b960a87bb4463d8f64fadd", func := "example.com/routewright/routewright/policy.LawS3359AAssoc", spec := "lawS3359AAssoc", apart := false }
def LawS3359AAssocSaid : Prop := lawS3359AAssocRow.holds Yba.pinned (OpenSpec.ofChange lawS3359AAssocSpec)

/-- ITS FALSE NEIGHBOUR: 'it returns false'. Refute it at one input. -/
def lawS3359AAssocWrong : ChangeSpec := { name := "lawS3359AAssoc", fn := fun _ => fun
  | [d1, d2, d3, d4, d5, d6] => { results := [.lit (.bool false)], args := [d1, d2, d3, d4, d5, d6] }
  | _ => none }
def LawS3359AAssocWrongFalsely : Prop := lawS3359AAssocRow.holds Yba.pinned (OpenSpec.ofChange lawS3359AAssocWrong)

end Rows
end Go.Proofs.Ybulkbqns
