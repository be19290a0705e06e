/-
  DERIVED. GIVEN WITH THE SEED: THE CARDS: each row of YbulkbqiwFmtRows.lean that lists a variable, with what it lists TIED to the program's text (the seventh form; the later family's looks); each row that meets fmt, with fmt's text TOLD by the authors' own Lean function (tested against real Go, not proved from fmt's source: count such statements apart). THE CARD IS WHAT COUNTS. Prove the row's statement (the work); the ties are given (YbulkbqiwFmtTie.lean); close each card by the builder's one call (the guide's Derived/Test/ToyasCard.lean, 'card_holds'). Laid BY PROGRAM, IN A SANDBOX (cutbox-door.mjs). By AI agents, Wed Nov 11 2026. No macro, syntax, notation, axiom, sorry.
-/
import Derived.Test.YbulkbqiwFmtRows
import GoSem.ClaimSeven
namespace Go.Proofs.YbulkbqiwFmt
namespace Rows

/-- THE TOLD CARD OF 'link.LawS3350ASequence'. -/
def lawS3350ASequenceCard : Claim7 := { stood := { row := lawS3350ASequenceRow, standIns := [], harness := (true, "001a39c0511b61a2e2cfba0018c59627cfc2a96a2a44d54ea025b894444ecd92"), looks := false }, told := true, goes := false }
def LawS3350ASequenceToldSaid : Prop := Claim7.holds Ybaf.pinned (.plain (OpenSpec.ofChange lawS3350ASequenceSpec)) lawS3350ASequenceCard
/-- ITS FALSE NEIGHBOUR. Refute it at one input. -/
def LawS3350ASequenceToldWrongFalsely : Prop := Claim7.holds Ybaf.pinned (.plain (OpenSpec.ofChange lawS3350ASequenceWrong)) lawS3350ASequenceCard
end Rows
end Go.Proofs.YbulkbqiwFmt
