/-
  DERIVED. GIVEN WITH THE SEED: THE CARDS: each row of YbulkqwuFmtRows.lean that lists a variable, with what it lists TIED to the program's text (the seventh form; the later family's looks); each row that meets fmt, with fmt's text TOLD by the authors' own Lean function (tested against real Go, not proved from fmt's source: count such statements apart). THE CARD IS WHAT COUNTS. Prove the row's statement (the work); the ties are given (YbulkqwuFmtTie.lean); close each card by the builder's one call (the guide's Derived/Test/ToyasCard.lean, 'card_holds'). Laid BY PROGRAM, IN A SANDBOX (cutbox-door.mjs). By AI agents, Wed Nov 11 2026. No macro, syntax, notation, axiom, sorry.
-/
import Derived.Test.YbulkqwuFmtRows
import GoSem.ClaimSeven
namespace Go.Proofs.YbulkqwuFmt
namespace Rows

/-- THE TOLD AND TIED CARD OF 'rootlet.LawS0865CNilIffZero'. -/
def lawS0865CNilIffZeroCard : Claim7 := { stood := { row := lawS0865CNilIffZeroRow, standIns := [], harness := (true, "66db9bba2ab187c8a58ee2ea16454fc1fcbcf1fb4eb87244d89b821d0a674c75"), looks := true }, told := true, laidByText := true, laidKinds := [.sentinel, .sentinel, .sentinel, .sentinel], laidTests := true, laidLooks := .later, goes := false }
def LawS0865CNilIffZeroToldSaid : Prop := Claim7.holds Ybaf.pinned (.plain (OpenSpec.ofChange lawS0865CNilIffZeroSpec)) lawS0865CNilIffZeroCard
/-- ITS FALSE NEIGHBOUR. Refute it at one input. -/
def LawS0865CNilIffZeroToldWrongFalsely : Prop := Claim7.holds Ybaf.pinned (.plain (OpenSpec.ofChange lawS0865CNilIffZeroWrong)) lawS0865CNilIffZeroCard
end Rows
end Go.Proofs.YbulkqwuFmt
