/-
  NARROWER THAN 'FOR EVERY INPUT', by the rows' own cells (each row's printed sentence says how): LawS0865CNilIffZero: ifaces, laid.
  DERIVED. THE GIVEN ROWS OF THIS SEAT. 1 by the template 'for every input the law returns true; each argument reads behind the call as it read before'; 0 by the template 'total and deterministic' (their statements: YbulkqwuFmtTotals.lean).
  GIVEN WITH THE SEED: the statements are not yours to turn. If you find one false, say at which input.
  Laid BY PROGRAM, IN A SANDBOX (cutbox-rows.mjs): the forced cells as the released guide's own fill.sh prints them over the translation e258221087f06911… (all of the seat's roots in one cut). By AI agents, Wed Nov 11 2026. No macro, syntax, notation, axiom, sorry.
-/
import Derived.Test.YbulkqwuFmtChecked
import GoSem.Claim
import GoSem.ClaimJoined
import GoSem.ClaimMapViews
import Derived.JoinedTies
import Derived.KernelRfl
namespace Go.Proofs.YbulkqwuFmt
/- THE CELL 'sum', in the pinned program and in every row, IS THE sha256 OF THE DUMP (.gsa) THAT YbulkqwuFmtProg.lean LOADS. Nothing in Lean hashes anything: it is a label: what it is worth is what the hold of that sum in a sandbox is worth. -/
noncomputable def Ybaf.pinned : Pinned := { name := "ybulkqwufmt", sum := "e258221087f069118e02ae9ebda3fbb48baece5043e0895a2e689c23442191ec", checked := Ybaf.checked }
namespace Rows
def none {H : Type} : Left H := { results := [], args := [] }

/- WHAT THE LISTED PACKAGE-LEVEL VARIABLES READ AS WHEN THE CALL BEGINS. Each datum BY PROGRAM (the guide's laid-datum.mjs) off the statement by which the dump's own 'gosem.cut.vars' lays the variable. In a bare row this is a premise. The card (YbulkqwuFmtCards.lean) ties it to the program's text. -/
def laid_example_com_rootlet_rootlet_ErrTreeSize {H : Type} : DataW H := .iface "*errors.errorString" (.ptr (.agg [.lit (.string [116, 104, 101, 32, 116, 114, 101, 101, 32, 100, 111, 101, 115, 32, 110, 111, 116, 32, 102, 105, 116, 32, 116, 104, 101, 32, 105, 110, 112, 117, 116, 39, 115, 32, 108, 101, 110, 103, 116, 104])]))
def laid_example_com_rootlet_rootlet_ErrTreeRoot {H : Type} : DataW H := .iface "*errors.errorString" (.ptr (.agg [.lit (.string [116, 104, 101, 32, 116, 114, 101, 101, 32, 100, 111, 101, 115, 32, 110, 111, 116, 32, 108, 101, 97, 100, 32, 116, 111, 32, 116, 104, 101, 32, 114, 111, 111, 116])]))
def laid_example_com_rootlet_rootlet_ErrBlockMismatch {H : Type} : DataW H := .iface "*errors.errorString" (.ptr (.agg [.lit (.string [98, 108, 111, 99, 107, 32, 100, 111, 101, 115, 32, 110, 111, 116, 32, 109, 97, 116, 99, 104])]))
def laid_example_com_rootlet_rootlet_ErrTreeMalformed {H : Type} : DataW H := .iface "*errors.errorString" (.ptr (.agg [.lit (.string [116, 104, 101, 32, 116, 114, 101, 101, 32, 105, 115, 32, 109, 97, 108, 102, 111, 114, 109, 101, 100])]))

/-- 'rootlet.LawS0865CNilIffZero': WHATEVER THE INPUT: true; the input reads as it did. -/
def lawS0865CNilIffZeroSpec : ChangeSpec := { name := "lawS0865CNilIffZero", vars := ["example.com/rootlet/rootlet.ErrBlockMismatch", "example.com/rootlet/rootlet.ErrTreeSize", "example.com/rootlet/rootlet.ErrTreeRoot", "example.com/rootlet/rootlet.ErrTreeMalformed"], fn := fun _ => fun
  | [d1, d2, g1, g2, g3, g4] => { results := [.lit (.bool true)], args := [d1, d2], vars := [g1, g2, g3, g4] }
  | _ => none }
def lawS0865CNilIffZeroRow : OpenClaim := { program := "ybulkqwufmt", sum := "e258221087f069118e02ae9ebda3fbb48baece5043e0895a2e689c23442191ec", func := "example.com/rootlet/rootlet.LawS0865CNilIffZero", spec := "lawS0865CNilIffZero", stops := ["fmt.errorf"], inPlace := ["fmt.errorf", "internal/reflectlite.TypeOf"], unfollowed := true, recurses := true, named := ["example.com/rootlet/rootlet.ErrBlockMismatch", "example.com/rootlet/rootlet.ErrTreeSize", "example.com/rootlet/rootlet.ErrTreeRoot", "example.com/rootlet/rootlet.ErrTreeMalformed"], ifaces := true, apart := false, laid := [("example.com/rootlet/rootlet.ErrTreeSize", laid_example_com_rootlet_rootlet_ErrTreeSize), ("example.com/rootlet/rootlet.ErrTreeRoot", laid_example_com_rootlet_rootlet_ErrTreeRoot), ("example.com/rootlet/rootlet.ErrBlockMismatch", laid_example_com_rootlet_rootlet_ErrBlockMismatch), ("example.com/rootlet/rootlet.ErrTreeMalformed", laid_example_com_rootlet_rootlet_ErrTreeMalformed)] }
/-- NO THEOREM (fmt's text is open here; it may be false): for the released tool's asking of the row's closed facts alone. THE STATEMENT IS 'LawS0865CNilIffZeroToldSaid' (YbulkqwuFmtCards.lean). -/
def LawS0865CNilIffZeroFormAsk : Prop := lawS0865CNilIffZeroRow.holds Ybaf.pinned (OpenSpec.ofChange lawS0865CNilIffZeroSpec)

/-- ITS FALSE NEIGHBOUR: 'it returns false'. Refute it at one input. -/
def lawS0865CNilIffZeroWrong : ChangeSpec := { name := "lawS0865CNilIffZero", vars := ["example.com/rootlet/rootlet.ErrBlockMismatch", "example.com/rootlet/rootlet.ErrTreeSize", "example.com/rootlet/rootlet.ErrTreeRoot", "example.com/rootlet/rootlet.ErrTreeMalformed"], fn := fun _ => fun
  | [d1, d2, g1, g2, g3, g4] => { results := [.lit (.bool false)], args := [d1, d2], vars := [g1, g2, g3, g4] }
  | _ => none }
def LawS0865CNilIffZeroWrongFormAsk : Prop := lawS0865CNilIffZeroRow.holds Ybaf.pinned (OpenSpec.ofChange lawS0865CNilIffZeroWrong)

end Rows
end Go.Proofs.YbulkqwuFmt
