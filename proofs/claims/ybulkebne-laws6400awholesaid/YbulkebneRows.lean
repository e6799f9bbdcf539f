/-
  No cell of these rows narrows 'for every input' (looked for: loops, veiled, ifaces, maps, wideKeys, modest, calm, conditions, laid).
  DERIVED. THE GIVEN ROWS OF THIS SEAT. 2 by the template 'for every input the law returns true; each argument reads behind the call as it read before'; 0 by the template 'total and deterministic' (their statements: YbulkebneTotals.lean).
  GIVEN WITH THE SEED: the statements are not yours to turn. If you find one false, say at which input.
  Laid BY PROGRAM, IN A SANDBOX (cutbox-rows.mjs): the forced cells as the released guide's own fill.sh prints them over the translation 5186997f93311201… (all of the seat's roots in one cut). By AI agents, Wed Nov 11 2026. No macro, syntax, notation, axiom, sorry.
-/
import Derived.Test.YbulkebneChecked
import GoSem.Claim
import GoSem.ClaimJoined
import GoSem.ClaimMapViews
import Derived.JoinedTies
import Derived.KernelRfl
namespace Go.Proofs.Ybulkebne
/- THE CELL 'sum', in the pinned program and in every row, IS THE sha256 OF THE DUMP (.gsa) THAT YbulkebneProg.lean LOADS. Nothing in Lean hashes anything: it is a label: what it is worth is what the hold of that sum in a sandbox is worth. -/
noncomputable def Yba.pinned : Pinned := { name := "ybulkebne", sum := "5186997f93311201e18e993ff4d23add52c04dd8881f38a284084f5bbe223353", checked := Yba.checked }
namespace Rows
def none {H : Type} : Left H := { results := [], args := [] }

/-- 'fuseline.LawS6400AWhole': WHATEVER THE INPUT: true; the input reads as it did. -/
def lawS6400AWholeSpec : ChangeSpec := { name := "lawS6400AWhole", fn := fun _ => fun
  | [d1, d2, d3, d4] => { results := [.lit (.bool true)], args := [d1, d2, d3, d4] }
  | _ => none }
def lawS6400AWholeRow : OpenClaim := { program := "ybulkebne", sum := "5186997f93311201e18e993ff4d23add52c04dd8881f38a284084f5bbe223353", func := "example.com/fuseline/fuseline.LawS6400AWhole", spec := "lawS6400AWhole", inPlace := ["(*internal/sync.Mutex).Lock", "internal/race.Disable", "sync/atomic.CompareAndSwapInt32", "internal/race.Enable", "internal/race.Acquire", "(*internal/sync.Mutex).lockSlow", "internal/sync.runtime_canSpin", "internal/sync.runtime_doSpin", "internal/sync.throw", "internal/sync.runtime_nanotime", "internal/sync.runtime_SemacquireMutex", "sync/atomic.AddInt32", "(*internal/sync.Mutex).Unlock", "internal/race.ReleaseMerge", "(*internal/sync.Mutex).unlockSlow", "internal/sync.fatal", "internal/sync.runtime_Semrelease", "(*internal/sync.Mutex).TryLock"], unfollowed := true, recurses := true, apart := false }
def LawS6400AWholeSaid : Prop := lawS6400AWholeRow.holds Yba.pinned (OpenSpec.ofChange lawS6400AWholeSpec)

/-- ITS FALSE NEIGHBOUR: 'it returns false'. Refute it at one input. -/
def lawS6400AWholeWrong : ChangeSpec := { name := "lawS6400AWhole", fn := fun _ => fun
  | [d1, d2, d3, d4] => { results := [.lit (.bool false)], args := [d1, d2, d3, d4] }
  | _ => none }
def LawS6400AWholeWrongFalsely : Prop := lawS6400AWholeRow.holds Yba.pinned (OpenSpec.ofChange lawS6400AWholeWrong)

/-- 'fuseline.LawS6400BWhole': WHATEVER THE INPUT: true; the input reads as it did. -/
def lawS6400BWholeSpec : ChangeSpec := { name := "lawS6400BWhole", fn := fun _ => fun
  | [d1, d2, d3] => { results := [.lit (.bool true)], args := [d1, d2, d3] }
  | _ => none }
def lawS6400BWholeRow : OpenClaim := { program := "ybulkebne", sum := "5186997f93311201e18e993ff4d23add52c04dd8881f38a284084f5bbe223353", func := "example.com/fuseline/fuseline.LawS6400BWhole", spec := "lawS6400BWhole", apart := false }
def LawS6400BWholeSaid : Prop := lawS6400BWholeRow.holds Yba.pinned (OpenSpec.ofChange lawS6400BWholeSpec)

/-- ITS FALSE NEIGHBOUR: 'it returns false'. Refute it at one input. -/
def lawS6400BWholeWrong : ChangeSpec := { name := "lawS6400BWhole", fn := fun _ => fun
  | [d1, d2, d3] => { results := [.lit (.bool false)], args := [d1, d2, d3] }
  | _ => none }
def LawS6400BWholeWrongFalsely : Prop := lawS6400BWholeRow.holds Yba.pinned (OpenSpec.ofChange lawS6400BWholeWrong)

end Rows
end Go.Proofs.Ybulkebne
