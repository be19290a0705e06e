/-
  No cell of these rows narrows 'for every input' (looked for: loops, veiled, ifaces, maps, wideKeys, modest, calm, conditions, laid).
  DERIVED. THE GIVEN ROWS OF THIS SEAT. 2 by the template 'for every input the law returns true; each argument reads behind the call as it read before'; 0 by the template 'total and deterministic' (their statements: YbulkbqiiTotals.lean).
  GIVEN WITH THE SEED: the statements are not yours to turn. If you find one false, say at which input.
  Laid BY PROGRAM, IN A SANDBOX (cutbox-rows.mjs): the forced cells as the released guide's own fill.sh prints them over the translation 1164c1c791b38d08… (all of the seat's roots in one cut). By AI agents, Wed Nov 11 2026. No macro, syntax, notation, axiom, sorry.
-/
import Derived.Test.YbulkbqiiChecked
import GoSem.Claim
import GoSem.ClaimJoined
import GoSem.ClaimMapViews
import Derived.JoinedTies
import Derived.KernelRfl
namespace Go.Proofs.Ybulkbqii
/- THE CELL 'sum', in the pinned program and in every row, IS THE sha256 OF THE DUMP (.gsa) THAT YbulkbqiiProg.lean LOADS. Nothing in Lean hashes anything: it is a label: what it is worth is what the hold of that sum in a sandbox is worth. -/
noncomputable def Yba.pinned : Pinned := { name := "ybulkbqii", sum := "1164c1c791b38d084450d5e4756b39866785e433f886ee3d8dffeacfee025933", checked := Yba.checked }
namespace Rows
def none {H : Type} : Left H := { results := [], args := [] }

/-- 'ere.LawS3349BNode': WHATEVER THE INPUT: true; the input reads as it did. -/
def lawS3349BNodeSpec : ChangeSpec := { name := "lawS3349BNode", fn := fun _ => fun
  | [d1, d2] => { results := [.lit (.bool true)], args := [d1, d2] }
  | _ => none }
def lawS3349BNodeRow : OpenClaim := { program := "ybulkbqii", sum := "1164c1c791b38d084450d5e4756b39866785e433f886ee3d8dffeacfee025933", func := "example.com/garante/garante/internal/ere.LawS3349BNode", spec := "lawS3349BNode", apart := false }
def LawS3349BNodeSaid : Prop := lawS3349BNodeRow.holds Yba.pinned (OpenSpec.ofChange lawS3349BNodeSpec)

/-- ITS FALSE NEIGHBOUR: 'it returns false'. Refute it at one input. -/
def lawS3349BNodeWrong : ChangeSpec := { name := "lawS3349BNode", fn := fun _ => fun
  | [d1, d2] => { results := [.lit (.bool false)], args := [d1, d2] }
  | _ => none }
def LawS3349BNodeWrongFalsely : Prop := lawS3349BNodeRow.holds Yba.pinned (OpenSpec.ofChange lawS3349BNodeWrong)

/-- 'ere.LawS3349BRow': WHATEVER THE INPUT: true; the input reads as it did. -/
def lawS3349BRowSpec : ChangeSpec := { name := "lawS3349BRow", fn := fun _ => fun
  | [d1, d2, d3, d4, d5] => { results := [.lit (.bool true)], args := [d1, d2, d3, d4, d5] }
  | _ => none }
def lawS3349BRowRow : OpenClaim := { program := "ybulkbqii", sum := "1164c1c791b38d084450d5e4756b39866785e433f886ee3d8dffeacfee025933", func := "example.com/garante/garante/internal/ere.LawS3349BRow", spec := "lawS3349BRow", apart := false }
def LawS3349BRowSaid : Prop := lawS3349BRowRow.holds Yba.pinned (OpenSpec.ofChange lawS3349BRowSpec)

/-- ITS FALSE NEIGHBOUR: 'it returns false'. Refute it at one input. -/
def lawS3349BRowWrong : ChangeSpec := { name := "lawS3349BRow", fn := fun _ => fun
  | [d1, d2, d3, d4, d5] => { results := [.lit (.bool false)], args := [d1, d2, d3, d4, d5] }
  | _ => none }
def LawS3349BRowWrongFalsely : Prop := lawS3349BRowRow.holds Yba.pinned (OpenSpec.ofChange lawS3349BRowWrong)

end Rows
end Go.Proofs.Ybulkbqii
