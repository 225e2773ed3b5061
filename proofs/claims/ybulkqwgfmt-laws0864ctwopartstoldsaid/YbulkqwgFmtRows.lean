/-
  NARROWER THAN 'FOR EVERY INPUT', by the rows' own cells (each row's printed sentence says how): LawS0864CDefaultSequence: ifaces, laid · LawS0864CTwoParts: ifaces, laid.
  DERIVED. THE GIVEN ROWS OF THIS SEAT. 2 by the template 'for every input the law returns true; each argument reads behind the call as it read before'; 0 by the template 'total and deterministic' (their statements: YbulkqwgFmtTotals.lean).
  GIVEN WITH THE SEED: the statements are not yours to turn. If you find one false, say at which input.
  Laid BY PROGRAM, IN A SANDBOX (cutbox-rows.mjs): the forced cells as the released guide's own fill.sh prints them over the translation 21a13bf0842c7a2c… (all of the seat's roots in one cut). By AI agents, Wed Nov 11 2026. No macro, syntax, notation, axiom, sorry.
-/
import Derived.Test.YbulkqwgFmtChecked
import GoSem.Claim
import GoSem.ClaimJoined
import GoSem.ClaimMapViews
import Derived.JoinedTies
import Derived.KernelRfl
namespace Go.Proofs.YbulkqwgFmt
/- THE CELL 'sum', in the pinned program and in every row, IS THE sha256 OF THE DUMP (.gsa) THAT YbulkqwgFmtProg.lean LOADS. Nothing in Lean hashes anything: it is a label: what it is worth is what the hold of that sum in a sandbox is worth. -/
noncomputable def Ybaf.pinned : Pinned := { name := "ybulkqwgfmt", sum := "21a13bf0842c7a2ca3fd5a2c4dad88af9de919e58dcd3669fc5b3032de4c1ec9", checked := Ybaf.checked }
namespace Rows
def none {H : Type} : Left H := { results := [], args := [] }

/- WHAT THE LISTED PACKAGE-LEVEL VARIABLES READ AS WHEN THE CALL BEGINS. Each datum BY PROGRAM (the guide's laid-datum.mjs) off the statement by which the dump's own 'gosem.cut.vars' lays the variable. In a bare row this is a premise. The card (YbulkqwgFmtCards.lean) ties it to the program's text. -/
def laid_math_bits_deBruijn64tab {H : Type} : DataW H := .agg [.lit (.int .u8 0), .lit (.int .u8 1), .lit (.int .u8 56), .lit (.int .u8 2), .lit (.int .u8 57), .lit (.int .u8 49), .lit (.int .u8 28), .lit (.int .u8 3), .lit (.int .u8 61), .lit (.int .u8 58), .lit (.int .u8 42), .lit (.int .u8 50), .lit (.int .u8 38), .lit (.int .u8 29), .lit (.int .u8 17), .lit (.int .u8 4), .lit (.int .u8 62), .lit (.int .u8 47), .lit (.int .u8 59), .lit (.int .u8 36), .lit (.int .u8 45), .lit (.int .u8 43), .lit (.int .u8 51), .lit (.int .u8 22), .lit (.int .u8 53), .lit (.int .u8 39), .lit (.int .u8 33), .lit (.int .u8 30), .lit (.int .u8 24), .lit (.int .u8 18), .lit (.int .u8 12), .lit (.int .u8 5), .lit (.int .u8 63), .lit (.int .u8 55), .lit (.int .u8 48), .lit (.int .u8 27), .lit (.int .u8 60), .lit (.int .u8 41), .lit (.int .u8 37), .lit (.int .u8 16), .lit (.int .u8 46), .lit (.int .u8 35), .lit (.int .u8 44), .lit (.int .u8 21), .lit (.int .u8 52), .lit (.int .u8 32), .lit (.int .u8 23), .lit (.int .u8 11), .lit (.int .u8 54), .lit (.int .u8 26), .lit (.int .u8 40), .lit (.int .u8 15), .lit (.int .u8 34), .lit (.int .u8 20), .lit (.int .u8 31), .lit (.int .u8 10), .lit (.int .u8 25), .lit (.int .u8 14), .lit (.int .u8 19), .lit (.int .u8 9), .lit (.int .u8 13), .lit (.int .u8 8), .lit (.int .u8 7), .lit (.int .u8 6)]
def laid_example_com_spoolwright_spoolwright_internal_spool_ErrFull {H : Type} : DataW H := .iface "*errors.errorString" (.ptr (.agg [.lit (.string [116, 104, 101, 32, 115, 112, 111, 111, 108, 32, 105, 115, 32, 102, 117, 108, 108])]))
def laid_example_com_spoolwright_spoolwright_internal_spool_ErrFreed {H : Type} : DataW H := .iface "*errors.errorString" (.ptr (.agg [.lit (.string [116, 104, 101, 32, 100, 97, 116, 97, 32, 115, 101, 116, 39, 115, 32, 115, 112, 111, 111, 108, 32, 115, 112, 97, 99, 101, 32, 104, 97, 115, 32, 98, 101, 101, 110, 32, 102, 114, 101, 101, 100])]))

/-- 'spool.LawS0864CDefaultSequence': WHATEVER THE INPUT: true; the input reads as it did. -/
def lawS0864CDefaultSequenceSpec : ChangeSpec := { name := "lawS0864CDefaultSequence", vars := ["example.com/spoolwright/spoolwright/internal/spool.ErrFull", "example.com/spoolwright/spoolwright/internal/spool.ErrFreed"], fn := fun _ => fun
  | [d1, d2, d3, g1, g2] => { results := [.lit (.bool true)], args := [d1, d2, d3], vars := [g1, g2] }
  | _ => none }
def lawS0864CDefaultSequenceRow : OpenClaim := { program := "ybulkqwgfmt", sum := "21a13bf0842c7a2ca3fd5a2c4dad88af9de919e58dcd3669fc5b3032de4c1ec9", func := "example.com/spoolwright/spoolwright/internal/spool.LawS0864CDefaultSequence", spec := "lawS0864CDefaultSequence", stops := ["fmt.errorf"], inPlace := ["(*internal/sync.Mutex).Lock", "internal/race.Disable", "sync/atomic.CompareAndSwapInt32", "internal/race.Enable", "internal/race.Acquire", "(*internal/sync.Mutex).lockSlow", "internal/sync.runtime_canSpin", "internal/sync.runtime_doSpin", "internal/sync.throw", "internal/sync.runtime_nanotime", "internal/sync.runtime_SemacquireMutex", "sync/atomic.AddInt32", "(*internal/sync.Mutex).Unlock", "internal/race.ReleaseMerge", "(*internal/sync.Mutex).unlockSlow", "internal/sync.fatal", "internal/sync.runtime_Semrelease", "fmt.errorf", "internal/reflectlite.TypeOf"], unfollowed := true, recurses := true, named := ["example.com/spoolwright/spoolwright/internal/spool.ErrFull", "example.com/spoolwright/spoolwright/internal/spool.ErrFreed", "math/bits.deBruijn64tab"], ifaces := true, apart := false, laid := [("math/bits.deBruijn64tab", laid_math_bits_deBruijn64tab), ("example.com/spoolwright/spoolwright/internal/spool.ErrFull", laid_example_com_spoolwright_spoolwright_internal_spool_ErrFull), ("example.com/spoolwright/spoolwright/internal/spool.ErrFreed", laid_example_com_spoolwright_spoolwright_internal_spool_ErrFreed)] }
/-- NO THEOREM (fmt's text is open here; it may be false): for the released tool's asking of the row's closed facts alone. THE STATEMENT IS 'LawS0864CDefaultSequenceToldSaid' (YbulkqwgFmtCards.lean). -/
def LawS0864CDefaultSequenceFormAsk : Prop := lawS0864CDefaultSequenceRow.holds Ybaf.pinned (OpenSpec.ofChange lawS0864CDefaultSequenceSpec)

/-- ITS FALSE NEIGHBOUR: 'it returns false'. Refute it at one input. -/
def lawS0864CDefaultSequenceWrong : ChangeSpec := { name := "lawS0864CDefaultSequence", vars := ["example.com/spoolwright/spoolwright/internal/spool.ErrFull", "example.com/spoolwright/spoolwright/internal/spool.ErrFreed"], fn := fun _ => fun
  | [d1, d2, d3, g1, g2] => { results := [.lit (.bool false)], args := [d1, d2, d3], vars := [g1, g2] }
  | _ => none }
def LawS0864CDefaultSequenceWrongFormAsk : Prop := lawS0864CDefaultSequenceRow.holds Ybaf.pinned (OpenSpec.ofChange lawS0864CDefaultSequenceWrong)

/-- 'spool.LawS0864CTwoParts': WHATEVER THE INPUT: true; the input reads as it did. -/
def lawS0864CTwoPartsSpec : ChangeSpec := { name := "lawS0864CTwoParts", vars := ["example.com/spoolwright/spoolwright/internal/spool.ErrFull", "example.com/spoolwright/spoolwright/internal/spool.ErrFreed"], fn := fun _ => fun
  | [d1, d2, d3, d4, g1, g2] => { results := [.lit (.bool true)], args := [d1, d2, d3, d4], vars := [g1, g2] }
  | _ => none }
def lawS0864CTwoPartsRow : OpenClaim := { program := "ybulkqwgfmt", sum := "21a13bf0842c7a2ca3fd5a2c4dad88af9de919e58dcd3669fc5b3032de4c1ec9", func := "example.com/spoolwright/spoolwright/internal/spool.LawS0864CTwoParts", spec := "lawS0864CTwoParts", stops := ["fmt.errorf"], inPlace := ["(*internal/sync.Mutex).Lock", "internal/race.Disable", "sync/atomic.CompareAndSwapInt32", "internal/race.Enable", "internal/race.Acquire", "(*internal/sync.Mutex).lockSlow", "internal/sync.runtime_canSpin", "internal/sync.runtime_doSpin", "internal/sync.throw", "internal/sync.runtime_nanotime", "internal/sync.runtime_SemacquireMutex", "sync/atomic.AddInt32", "(*internal/sync.Mutex).Unlock", "internal/race.ReleaseMerge", "(*internal/sync.Mutex).unlockSlow", "internal/sync.fatal", "internal/sync.runtime_Semrelease", "fmt.errorf", "internal/reflectlite.TypeOf"], unfollowed := true, recurses := true, named := ["example.com/spoolwright/spoolwright/internal/spool.ErrFull", "example.com/spoolwright/spoolwright/internal/spool.ErrFreed", "math/bits.deBruijn64tab"], ifaces := true, apart := false, laid := [("math/bits.deBruijn64tab", laid_math_bits_deBruijn64tab), ("example.com/spoolwright/spoolwright/internal/spool.ErrFull", laid_example_com_spoolwright_spoolwright_internal_spool_ErrFull), ("example.com/spoolwright/spoolwright/internal/spool.ErrFreed", laid_example_com_spoolwright_spoolwright_internal_spool_ErrFreed)] }
/-- NO THEOREM (fmt's text is open here; it may be false): for the released tool's asking of the row's closed facts alone. THE STATEMENT IS 'LawS0864CTwoPartsToldSaid' (YbulkqwgFmtCards.lean). -/
def LawS0864CTwoPartsFormAsk : Prop := lawS0864CTwoPartsRow.holds Ybaf.pinned (OpenSpec.ofChange lawS0864CTwoPartsSpec)

/-- ITS FALSE NEIGHBOUR: 'it returns false'. Refute it at one input. -/
def lawS0864CTwoPartsWrong : ChangeSpec := { name := "lawS0864CTwoParts", vars := ["example.com/spoolwright/spoolwright/internal/spool.ErrFull", "example.com/spoolwright/spoolwright/internal/spool.ErrFreed"], fn := fun _ => fun
  | [d1, d2, d3, d4, g1, g2] => { results := [.lit (.bool false)], args := [d1, d2, d3, d4], vars := [g1, g2] }
  | _ => none }
def LawS0864CTwoPartsWrongFormAsk : Prop := lawS0864CTwoPartsRow.holds Ybaf.pinned (OpenSpec.ofChange lawS0864CTwoPartsWrong)

end Rows
end Go.Proofs.YbulkqwgFmt
