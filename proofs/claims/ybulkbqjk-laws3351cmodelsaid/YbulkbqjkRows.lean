/-
  No cell of these rows narrows 'for every input' (looked for: loops, veiled, ifaces, maps, wideKeys, modest, calm, conditions, laid).
  DERIVED. THE GIVEN ROWS OF THIS SEAT. 3 by the template 'for every input the law returns true; each argument reads behind the call as it read before'; 0 by the template 'total and deterministic' (their statements: YbulkbqjkTotals.lean).
  GIVEN WITH THE SEED: the statements are not yours to turn. If you find one false, say at which input.
  Laid BY PROGRAM, IN A SANDBOX (cutbox-rows.mjs): the forced cells as the released guide's own fill.sh prints them over the translation dd47fa110c452413… (all of the seat's roots in one cut). By AI agents, Wed Nov 11 2026. No macro, syntax, notation, axiom, sorry.
-/
import Derived.Test.YbulkbqjkChecked
import GoSem.Claim
import GoSem.ClaimJoined
import GoSem.ClaimMapViews
import Derived.JoinedTies
import Derived.KernelRfl
namespace Go.Proofs.Ybulkbqjk
/- THE CELL 'sum', in the pinned program and in every row, IS THE sha256 OF THE DUMP (.gsa) THAT YbulkbqjkProg.lean LOADS. Nothing in Lean hashes anything: it is a label: what it is worth is what the hold of that sum in a sandbox is worth. -/
noncomputable def Yba.pinned : Pinned := { name := "ybulkbqjk", sum := "dd47fa110c452413ee41549037d3b8f3fec1fd5c50c358ede5d52263e61b68d0", checked := Yba.checked }
namespace Rows
def none {H : Type} : Left H := { results := [], args := [] }

/-- 'cometbft.LawS3351BModel': WHATEVER THE INPUT: true; the input reads as it did. -/
def lawS3351BModelSpec : ChangeSpec := { name := "lawS3351BModel", fn := fun _ => fun
  | [d1, d2, d3, d4] => { results := [.lit (.bool true)], args := [d1, d2, d3, d4] }
  | _ => none }
def lawS3351BModelRow : OpenClaim := { program := "ybulkbqjk", sum := "dd47fa110c452413ee41549037d3b8f3fec1fd5c50c358ede5d52263e61b68d0", func := "example.com/isthmus/isthmus/cometbft.LawS3351BModel", spec := "lawS3351BModel", apart := false }
def LawS3351BModelSaid : Prop := lawS3351BModelRow.holds Yba.pinned (OpenSpec.ofChange lawS3351BModelSpec)

/-- ITS FALSE NEIGHBOUR: 'it returns false'. Refute it at one input. -/
def lawS3351BModelWrong : ChangeSpec := { name := "lawS3351BModel", fn := fun _ => fun
  | [d1, d2, d3, d4] => { results := [.lit (.bool false)], args := [d1, d2, d3, d4] }
  | _ => none }
def LawS3351BModelWrongFalsely : Prop := lawS3351BModelRow.holds Yba.pinned (OpenSpec.ofChange lawS3351BModelWrong)

/-- 'cometbft.LawS3351BOrder': WHATEVER THE INPUT: true; the input reads as it did. -/
def lawS3351BOrderSpec : ChangeSpec := { name := "lawS3351BOrder", fn := fun _ => fun
  | [d1, d2, d3, d4] => { results := [.lit (.bool true)], args := [d1, d2, d3, d4] }
  | _ => none }
def lawS3351BOrderRow : OpenClaim := { program := "ybulkbqjk", sum := "dd47fa110c452413ee41549037d3b8f3fec1fd5c50c358ede5d52263e61b68d0", func := "example.com/isthmus/isthmus/cometbft.LawS3351BOrder", spec := "lawS3351BOrder", apart := false }
def LawS3351BOrderSaid : Prop := lawS3351BOrderRow.holds Yba.pinned (OpenSpec.ofChange lawS3351BOrderSpec)

/-- ITS FALSE NEIGHBOUR: 'it returns false'. Refute it at one input. -/
def lawS3351BOrderWrong : ChangeSpec := { name := "lawS3351BOrder", fn := fun _ => fun
  | [d1, d2, d3, d4] => { results := [.lit (.bool false)], args := [d1, d2, d3, d4] }
  | _ => none }
def LawS3351BOrderWrongFalsely : Prop := lawS3351BOrderRow.holds Yba.pinned (OpenSpec.ofChange lawS3351BOrderWrong)

/-- 'handler.LawS3351CModel': WHATEVER THE INPUT: true; the input reads as it did. -/
def lawS3351CModelSpec : ChangeSpec := { name := "lawS3351CModel", fn := fun _ => fun
  | [d] => { results := [.lit (.bool true)], args := [d] }
  | _ => none }
def lawS3351CModelRow : OpenClaim := { program := "ybulkbqjk", sum := "dd47fa110c452413ee41549037d3b8f3fec1fd5c50c358ede5d52263e61b68d0", func := "example.com/isthmus/isthmus/handler.LawS3351CModel", spec := "lawS3351CModel", named := ["encoding/binary.BigEndian"], apart := false }
def LawS3351CModelSaid : Prop := lawS3351CModelRow.holds Yba.pinned (OpenSpec.ofChange lawS3351CModelSpec)

/-- ITS FALSE NEIGHBOUR: 'it returns false'. Refute it at one input. -/
def lawS3351CModelWrong : ChangeSpec := { name := "lawS3351CModel", fn := fun _ => fun
  | [d] => { results := [.lit (.bool false)], args := [d] }
  | _ => none }
def LawS3351CModelWrongFalsely : Prop := lawS3351CModelRow.holds Yba.pinned (OpenSpec.ofChange lawS3351CModelWrong)

end Rows
end Go.Proofs.Ybulkbqjk
