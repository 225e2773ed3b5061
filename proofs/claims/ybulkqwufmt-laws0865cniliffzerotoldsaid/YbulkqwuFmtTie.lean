/-
  DERIVED. GIVEN WITH THE SEED: THE PROGRAM's TIES (one call each: nine closed facts by the kernel) AND EACH ROW's TIE, after the 31st guide's Derived/Test/Toyas{Tie, Card}.lean. No idea stands in it: it is a product of the set-up. Laid BY PROGRAM, IN A SANDBOX (cutbox-door.mjs). By AI agents, Wed Nov 11 2026. No macro, syntax, notation, axiom, sorry.
-/
import Derived.Test.YbulkqwuFmtRows
import Derived.LaidByTextLater
import Derived.SevenTiedAt
import Derived.LaidSub
import Derived.LaidOnce
namespace Go.Proofs.YbulkqwuFmt
open Go
set_option maxRecDepth 100000
theorem seatTie1 : Ybaf.prog.laidByTextLater [("example.com/rootlet/rootlet.ErrTreeSize", Rows.laid_example_com_rootlet_rootlet_ErrTreeSize), ("example.com/rootlet/rootlet.ErrTreeRoot", Rows.laid_example_com_rootlet_rootlet_ErrTreeRoot), ("example.com/rootlet/rootlet.ErrBlockMismatch", Rows.laid_example_com_rootlet_rootlet_ErrBlockMismatch), ("example.com/rootlet/rootlet.ErrTreeMalformed", Rows.laid_example_com_rootlet_rootlet_ErrTreeMalformed)] [.sentinel, .sentinel, .sentinel, .sentinel] true :=
  Program.laidByTextLater_by_one 85 8 2 (by kernel_rfl) (by kernel_rfl) (by kernel_rfl) (by kernel_rfl) (by kernel_rfl) (by kernel_rfl) (fun _ _ => by kernel_rfl)
theorem noOwnUnsafe : Ybaf.pinned.checked.prog.headLifts.contains "ownunsafe" = false := by kernel_rfl
theorem tie : Ybaf.prog.laidByTextLater [("example.com/rootlet/rootlet.ErrTreeSize", Rows.laid_example_com_rootlet_rootlet_ErrTreeSize), ("example.com/rootlet/rootlet.ErrTreeRoot", Rows.laid_example_com_rootlet_rootlet_ErrTreeRoot), ("example.com/rootlet/rootlet.ErrBlockMismatch", Rows.laid_example_com_rootlet_rootlet_ErrBlockMismatch), ("example.com/rootlet/rootlet.ErrTreeMalformed", Rows.laid_example_com_rootlet_rootlet_ErrTreeMalformed)] [.sentinel, .sentinel, .sentinel, .sentinel] true :=
  Program.laidByTextLater.sub seatTie1 ["example.com/rootlet/rootlet.ErrTreeSize", "example.com/rootlet/rootlet.ErrTreeRoot", "example.com/rootlet/rootlet.ErrBlockMismatch", "example.com/rootlet/rootlet.ErrTreeMalformed"] (by kernel_rfl) (by kernel_rfl)
theorem lawS0865CNilIffZero_row_tie : Rows.lawS0865CNilIffZeroRow.laidByTextAt .later Ybaf.pinned [.sentinel, .sentinel, .sentinel, .sentinel] true :=
  OpenClaim.laidByTextAt_later rfl rfl tie noOwnUnsafe
end Go.Proofs.YbulkqwuFmt
