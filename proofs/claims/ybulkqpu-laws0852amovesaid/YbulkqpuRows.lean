/-
  No cell of these rows narrows 'for every input' (looked for: loops, veiled, ifaces, maps, wideKeys, modest, calm, conditions, laid).
  DERIVED. THE GIVEN ROWS OF THIS SEAT. 1 by the template 'for every input the law returns true; each argument reads behind the call as it read before'; 0 by the template 'total and deterministic' (their statements: YbulkqpuTotals.lean).
  GIVEN WITH THE SEED: the statements are not yours to turn. If you find one false, say at which input.
  Laid BY PROGRAM, IN A SANDBOX (cutbox-rows.mjs): the forced cells as the released guide's own fill.sh prints them over the translation a56243fb4f23058e… (all of the seat's roots in one cut). By AI agents, Wed Nov 11 2026. No macro, syntax, notation, axiom, sorry.
-/
import Derived.Test.YbulkqpuChecked
import GoSem.Claim
import GoSem.ClaimJoined
import GoSem.ClaimMapViews
import Derived.JoinedTies
import Derived.KernelRfl
namespace Go.Proofs.Ybulkqpu
/- THE CELL 'sum', in the pinned program and in every row, IS THE sha256 OF THE DUMP (.gsa) THAT YbulkqpuProg.lean LOADS. Nothing in Lean hashes anything: it is a label: what it is worth is what the hold of that sum in a sandbox is worth. -/
noncomputable def Yba.pinned : Pinned := { name := "ybulkqpu", sum := "a56243fb4f23058ea5a8e10e14f1b02fae1c843e8f3a75cd67235ad0df07d8d0", checked := Yba.checked }
namespace Rows
def none {H : Type} : Left H := { results := [], args := [] }

/-- 'balance.LawS0852AMove': WHATEVER THE INPUT: true; the input reads as it did. -/
def lawS0852AMoveSpec : ChangeSpec := { name := "lawS0852AMove", fn := fun _ => fun
  | [d1, d2, d3, d4, d5, d6, d7] => { results := [.lit (.bool true)], args := [d1, d2, d3, d4, d5, d6, d7] }
  | _ => none }
def lawS0852AMoveRow : OpenClaim := { program := "ybulkqpu", sum := "a56243fb4f23058ea5a8e10e14f1b02fae1c843e8f3a75cd67235ad0df07d8d0", func := "example.com/forescale/forescale/internal/balance.LawS0852AMove", spec := "lawS0852AMove", recurses := true, apart := false }
def LawS0852AMoveSaid : Prop := lawS0852AMoveRow.holds Yba.pinned (OpenSpec.ofChange lawS0852AMoveSpec)

/-- ITS FALSE NEIGHBOUR: 'it returns false'. Refute it at one input. -/
def lawS0852AMoveWrong : ChangeSpec := { name := "lawS0852AMove", fn := fun _ => fun
  | [d1, d2, d3, d4, d5, d6, d7] => { results := [.lit (.bool false)], args := [d1, d2, d3, d4, d5, d6, d7] }
  | _ => none }
def LawS0852AMoveWrongFalsely : Prop := lawS0852AMoveRow.holds Yba.pinned (OpenSpec.ofChange lawS0852AMoveWrong)

end Rows
end Go.Proofs.Ybulkqpu
