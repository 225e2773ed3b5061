/-
  No cell of these rows narrows 'for every input' (looked for: loops, veiled, ifaces, maps, wideKeys, modest, calm, conditions, laid).
  DERIVED. THE GIVEN ROWS OF THIS SEAT. 2 by the template 'for every input the law returns true; each argument reads behind the call as it read before'; 0 by the template 'total and deterministic' (their statements: YbulkqveTotals.lean).
  GIVEN WITH THE SEED: the statements are not yours to turn. If you find one false, say at which input.
  Laid BY PROGRAM, IN A SANDBOX (cutbox-rows.mjs): the forced cells as the released guide's own fill.sh prints them over the translation ed895c3fe97ae6bf… (all of the seat's roots in one cut). By AI agents, Wed Nov 11 2026. No macro, syntax, notation, axiom, sorry.
-/
import Derived.Test.YbulkqveChecked
import GoSem.Claim
import GoSem.ClaimJoined
import GoSem.ClaimMapViews
import Derived.JoinedTies
import Derived.KernelRfl
namespace Go.Proofs.Ybulkqve
/- THE CELL 'sum', in the pinned program and in every row, IS THE sha256 OF THE DUMP (.gsa) THAT YbulkqveProg.lean LOADS. Nothing in Lean hashes anything: it is a label: what it is worth is what the hold of that sum in a sandbox is worth. -/
noncomputable def Yba.pinned : Pinned := { name := "ybulkqve", sum := "ed895c3fe97ae6bf0ff423c179b4088aef98a5b710c9f778c869af8ea331b825", checked := Yba.checked }
namespace Rows
def none {H : Type} : Left H := { results := [], args := [] }

/-- 'lex.LawS0862CTable': WHATEVER THE INPUT: true; the input reads as it did. -/
def lawS0862CTableSpec : ChangeSpec := { name := "lawS0862CTable", fn := fun _ => fun
  | [d] => { results := [.lit (.bool true)], args := [d] }
  | _ => none }
def lawS0862CTableRow : OpenClaim := { program := "ybulkqve", sum := "ed895c3fe97ae6bf0ff423c179b4088aef98a5b710c9f778c869af8ea331b825", func := "example.com/wiretag/wiretag/internal/lex.LawS0862CTable", spec := "lawS0862CTable", apart := false }
def LawS0862CTableSaid : Prop := lawS0862CTableRow.holds Yba.pinned (OpenSpec.ofChange lawS0862CTableSpec)

/-- ITS FALSE NEIGHBOUR: 'it returns false'. Refute it at one input. -/
def lawS0862CTableWrong : ChangeSpec := { name := "lawS0862CTable", fn := fun _ => fun
  | [d] => { results := [.lit (.bool false)], args := [d] }
  | _ => none }
def LawS0862CTableWrongFalsely : Prop := lawS0862CTableRow.holds Yba.pinned (OpenSpec.ofChange lawS0862CTableWrong)

/-- 'lex.LawS0862CAllBytes': WHATEVER THE INPUT: true; the input reads as it did. -/
def lawS0862CAllBytesSpec : ChangeSpec := { name := "lawS0862CAllBytes", fn := fun _ => fun
  | [d] => { results := [.lit (.bool true)], args := [d] }
  | _ => none }
def lawS0862CAllBytesRow : OpenClaim := { program := "ybulkqve", sum := "ed895c3fe97ae6bf0ff423c179b4088aef98a5b710c9f778c869af8ea331b825", func := "example.com/wiretag/wiretag/internal/lex.LawS0862CAllBytes", spec := "lawS0862CAllBytes", apart := false }
def LawS0862CAllBytesSaid : Prop := lawS0862CAllBytesRow.holds Yba.pinned (OpenSpec.ofChange lawS0862CAllBytesSpec)

/-- ITS FALSE NEIGHBOUR: 'it returns false'. Refute it at one input. -/
def lawS0862CAllBytesWrong : ChangeSpec := { name := "lawS0862CAllBytes", fn := fun _ => fun
  | [d] => { results := [.lit (.bool false)], args := [d] }
  | _ => none }
def LawS0862CAllBytesWrongFalsely : Prop := lawS0862CAllBytesRow.holds Yba.pinned (OpenSpec.ofChange lawS0862CAllBytesWrong)

end Rows
end Go.Proofs.Ybulkqve
