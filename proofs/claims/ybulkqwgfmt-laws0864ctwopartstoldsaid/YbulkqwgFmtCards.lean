/-
  DERIVED. GIVEN WITH THE SEED: THE CARDS: each row of YbulkqwgFmtRows.lean that lists a variable, with what it lists TIED to the program's text (the seventh form; the later family's looks); each row that meets fmt, with fmt's text TOLD by the authors' own Lean function (tested against real Go, not proved from fmt's source: count such statements apart). THE CARD IS WHAT COUNTS. Prove the row's statement (the work); the ties are given (YbulkqwgFmtTie.lean); close each card by the builder's one call (the guide's Derived/Test/ToyasCard.lean, 'card_holds'). Laid BY PROGRAM, IN A SANDBOX (cutbox-door.mjs). By AI agents, Wed Nov 11 2026. No macro, syntax, notation, axiom, sorry.
-/
import Derived.Test.YbulkqwgFmtRows
import GoSem.ClaimSeven
namespace Go.Proofs.YbulkqwgFmt
namespace Rows

/-- THE TOLD AND TIED CARD OF 'spool.LawS0864CDefaultSequence'. -/
def lawS0864CDefaultSequenceCard : Claim7 := { stood := { row := lawS0864CDefaultSequenceRow, standIns := [], harness := (true, "6b8dde418de49f24265beeaab355a90ca44318d7b69f387fbabd9be73c053b6e"), looks := true }, told := true, laidByText := true, laidKinds := [.data, .sentinel, .sentinel], laidTests := true, laidLooks := .later, goes := false }
def LawS0864CDefaultSequenceToldSaid : Prop := Claim7.holds Ybaf.pinned (.plain (OpenSpec.ofChange lawS0864CDefaultSequenceSpec)) lawS0864CDefaultSequenceCard
/-- ITS FALSE NEIGHBOUR. Refute it at one input. -/
def LawS0864CDefaultSequenceToldWrongFalsely : Prop := Claim7.holds Ybaf.pinned (.plain (OpenSpec.ofChange lawS0864CDefaultSequenceWrong)) lawS0864CDefaultSequenceCard

/-- THE TOLD AND TIED CARD OF 'spool.LawS0864CTwoParts'. -/
def lawS0864CTwoPartsCard : Claim7 := { stood := { row := lawS0864CTwoPartsRow, standIns := [], harness := (true, "6b8dde418de49f24265beeaab355a90ca44318d7b69f387fbabd9be73c053b6e"), looks := true }, told := true, laidByText := true, laidKinds := [.data, .sentinel, .sentinel], laidTests := true, laidLooks := .later, goes := false }
def LawS0864CTwoPartsToldSaid : Prop := Claim7.holds Ybaf.pinned (.plain (OpenSpec.ofChange lawS0864CTwoPartsSpec)) lawS0864CTwoPartsCard
/-- ITS FALSE NEIGHBOUR. Refute it at one input. -/
def LawS0864CTwoPartsToldWrongFalsely : Prop := Claim7.holds Ybaf.pinned (.plain (OpenSpec.ofChange lawS0864CTwoPartsWrong)) lawS0864CTwoPartsCard
end Rows
end Go.Proofs.YbulkqwgFmt
