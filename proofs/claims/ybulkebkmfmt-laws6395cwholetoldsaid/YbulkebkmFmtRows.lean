/-
  No cell of these rows narrows 'for every input' (looked for: loops, veiled, ifaces, maps, wideKeys, modest, calm, conditions, laid).
  DERIVED. THE GIVEN ROWS OF THIS SEAT. 1 by the template 'for every input the law returns true; each argument reads behind the call as it read before'; 0 by the template 'total and deterministic' (their statements: YbulkebkmFmtTotals.lean).
  GIVEN WITH THE SEED: the statements are not yours to turn. If you find one false, say at which input.
  Laid BY PROGRAM, IN A SANDBOX (cutbox-rows.mjs): the forced cells as the released guide's own fill.sh prints them over the translation f8cda494eb9e7ac0… (all of the seat's roots in one cut). By AI agents, Wed Nov 11 2026. No macro, syntax, notation, axiom, sorry.
-/
import Derived.Test.YbulkebkmFmtChecked
import GoSem.Claim
import GoSem.ClaimJoined
import GoSem.ClaimMapViews
import Derived.JoinedTies
import Derived.KernelRfl
namespace Go.Proofs.YbulkebkmFmt
/- THE CELL 'sum', in the pinned program and in every row, IS THE sha256 OF THE DUMP (.gsa) THAT YbulkebkmFmtProg.lean LOADS. Nothing in Lean hashes anything: it is a label: what it is worth is what the hold of that sum in a sandbox is worth. -/
noncomputable def Ybaf.pinned : Pinned := { name := "ybulkebkmfmt", sum := "f8cda494eb9e7ac04c1c9788b210923387cfa6a6508f7de664c2adb5f905d973", checked := Ybaf.checked }
namespace Rows
def none {H : Type} : Left H := { results := [], args := [] }

/-- 'latticework.LawS6395CWhole': WHATEVER THE INPUT: true; the input reads as it did. -/
def lawS6395CWholeSpec : ChangeSpec := { name := "lawS6395CWhole", fn := fun _ => fun
  | [d1, d2, d3, d4, d5] => { results := [.lit (.bool true)], args := [d1, d2, d3, d4, d5] }
  | _ => none }
def lawS6395CWholeRow : OpenClaim := { program := "ybulkebkmfmt", sum := "f8cda494eb9e7ac04c1c9788b210923387cfa6a6508f7de664c2adb5f905d973", func := "example.com/latticework/latticework.LawS6395CWhole", spec := "lawS6395CWhole", stops := ["fmt.errorf"], inPlace := ["fmt.errorf"], apart := false }
/-- NO THEOREM (fmt's text is open here; it may be false): for the released tool's asking of the row's closed facts alone. THE STATEMENT IS 'LawS6395CWholeToldSaid' (YbulkebkmFmtCards.lean). -/
def LawS6395CWholeFormAsk : Prop := lawS6395CWholeRow.holds Ybaf.pinned (OpenSpec.ofChange lawS6395CWholeSpec)

/-- ITS FALSE NEIGHBOUR: 'it returns false'. Refute it at one input. -/
def lawS6395CWholeWrong : ChangeSpec := { name := "lawS6395CWhole", fn := fun _ => fun
  | [d1, d2, d3, d4, d5] => { results := [.lit (.bool false)], args := [d1, d2, d3, d4, d5] }
  | _ => none }
def LawS6395CWholeWrongFormAsk : Prop := lawS6395CWholeRow.holds Ybaf.pinned (OpenSpec.ofChange lawS6395CWholeWrong)

end Rows
end Go.Proofs.YbulkebkmFmt
