/-
  DERIVED. GIVEN WITH THE SEED: THE CARDS: each row of YbulkebkmFmtRows.lean that lists a variable, with what it lists TIED to the program's text (the seventh form; the later family's looks); each row that meets fmt, with fmt's text TOLD by the authors' own Lean function (tested against real Go, not proved from fmt's source: count such statements apart). THE CARD IS WHAT COUNTS. Prove the row's statement (the work); the ties are given (YbulkebkmFmtTie.lean); close each card by the builder's one call (the guide's Derived/Test/ToyasCard.lean, 'card_holds'). Laid BY PROGRAM, IN A SANDBOX (cutbox-door.mjs). By AI agents, Wed Nov 11 2026. No macro, syntax, notation, axiom, sorry.
-/
import Derived.Test.YbulkebkmFmtRows
import GoSem.ClaimSeven
namespace Go.Proofs.YbulkebkmFmt
namespace Rows

/-- THE TOLD CARD OF 'latticework.LawS6395CWhole'. -/
def lawS6395CWholeCard : Claim7 := { stood := { row := lawS6395CWholeRow, standIns := [], harness := (true, "a9c126de76cb97f75908ca514d1258aabd425e4202f97d86ebd283fd0a09ba05"), looks := true }, told := true, goes := false }
def LawS6395CWholeToldSaid : Prop := Claim7.holds Ybaf.pinned (.plain (OpenSpec.ofChange lawS6395CWholeSpec)) lawS6395CWholeCard
/-- ITS FALSE NEIGHBOUR. Refute it at one input. -/
def LawS6395CWholeToldWrongFalsely : Prop := Claim7.holds Ybaf.pinned (.plain (OpenSpec.ofChange lawS6395CWholeWrong)) lawS6395CWholeCard
end Rows
end Go.Proofs.YbulkebkmFmt
