/-
  No cell of these rows narrows 'for every input' (looked for: loops, veiled, ifaces, maps, wideKeys, modest, calm, conditions, laid).
  DERIVED. THE GIVEN ROWS OF THIS SEAT. 3 by the template 'for every input the law returns true; each argument reads behind the call as it read before'; 0 by the template 'total and deterministic' (their statements: YbulkeblaTotals.lean).
  GIVEN WITH THE SEED: the statements are not yours to turn. If you find one false, say at which input.
  Laid BY PROGRAM, IN A SANDBOX (cutbox-rows.mjs): the forced cells as the released guide's own fill.sh prints them over the translation ac1a600b465158dc… (all of the seat's roots in one cut). By AI agents, Wed Nov 11 2026. No macro, syntax, notation, axiom, sorry.
-/
import Derived.Test.YbulkeblaChecked
import GoSem.Claim
import GoSem.ClaimJoined
import GoSem.ClaimMapViews
import Derived.JoinedTies
import Derived.KernelRfl
namespace Go.Proofs.Ybulkebla
/- THE CELL 'sum', in the pinned program and in every row, IS THE sha256 OF THE DUMP (.gsa) THAT YbulkeblaProg.lean LOADS. Nothing in Lean hashes anything: it is a label: what it is worth is what the hold of that sum in a sandbox is worth. -/
noncomputable def Yba.pinned : Pinned := { name := "ybulkebla", sum := "ac1a600b465158dc3a2e7965b8507b9be976cda8525bc436f50ace0237deceb5", checked := Yba.checked }
namespace Rows
def none {H : Type} : Left H := { results := [], args := [] }

/-- 'catalog.LawS6396AWhole': WHATEVER THE INPUT: true; the input reads as it did. -/
def lawS6396AWholeSpec : ChangeSpec := { name := "lawS6396AWhole", fn := fun _ => fun
  | [d1, d2, d3, d4] => { results := [.lit (.bool true)], args := [d1, d2, d3, d4] }
  | _ => none }
def lawS6396AWholeRow : OpenClaim := { program := "ybulkebla", sum := "ac1a600b465158dc3a2e7965b8507b9be976cda8525bc436f50ace0237deceb5", func := "example.com/kinmesh/kinmesh/pkg/catalog.LawS6396AWhole", spec := "lawS6396AWhole", inPlace := ["internal/reflectlite.ValueOf", "internal/reflectlite.Swapper", "(internal/reflectlite.Value).Len", "internal/bytealg.abigen_runtime_cmpstring"], unfollowed := true, recurses := true, apart := false }
def LawS6396AWholeSaid : Prop := lawS6396AWholeRow.holds Yba.pinned (OpenSpec.ofChange lawS6396AWholeSpec)

/-- ITS FALSE NEIGHBOUR: 'it returns false'. Refute it at one input. -/
def lawS6396AWholeWrong : ChangeSpec := { name := "lawS6396AWhole", fn := fun _ => fun
  | [d1, d2, d3, d4] => { results := [.lit (.bool false)], args := [d1, d2, d3, d4] }
  | _ => none }
def LawS6396AWholeWrongFalsely : Prop := lawS6396AWholeRow.holds Yba.pinned (OpenSpec.ofChange lawS6396AWholeWrong)

/-- 'node.LawS6396BWhole': WHATEVER THE INPUT: true; the input reads as it did. -/
def lawS6396BWholeSpec : ChangeSpec := { name := "lawS6396BWhole", fn := fun _ => fun
  | [d1, d2, d3, d4, d5] => { results := [.lit (.bool true)], args := [d1, d2, d3, d4, d5] }
  | _ => none }
def lawS6396BWholeRow : OpenClaim := { program := "ybulkebla", sum := "ac1a600b465158dc3a2e7965b8507b9be976cda8525bc436f50ace0237deceb5", func := "example.com/kinmesh/kinmesh/pkg/node.LawS6396BWhole", spec := "lawS6396BWhole", inPlace := ["internal/reflectlite.ValueOf", "internal/reflectlite.Swapper", "(internal/reflectlite.Value).Len", "(*sync.RWMutex).RLock", "internal/race.Read", "internal/race.Disable", "sync/atomic.AddInt32", "sync.runtime_SemacquireRWMutexR", "internal/race.Enable", "internal/race.Acquire", "(*sync.RWMutex).RUnlock", "internal/race.ReleaseMerge", "(*sync.RWMutex).rUnlockSlow", "sync.fatal", "sync.runtime_Semrelease"], unfollowed := true, recurses := true, apart := false }
def LawS6396BWholeSaid : Prop := lawS6396BWholeRow.holds Yba.pinned (OpenSpec.ofChange lawS6396BWholeSpec)

/-- ITS FALSE NEIGHBOUR: 'it returns false'. Refute it at one input. -/
def lawS6396BWholeWrong : ChangeSpec := { name := "lawS6396BWhole", fn := fun _ => fun
  | [d1, d2, d3, d4, d5] => { results := [.lit (.bool false)], args := [d1, d2, d3, d4, d5] }
  | _ => none }
def LawS6396BWholeWrongFalsely : Prop := lawS6396BWholeRow.holds Yba.pinned (OpenSpec.ofChange lawS6396BWholeWrong)

/-- 'walk.LawS6396CWhole': WHATEVER THE INPUT: true; the input reads as it did. -/
def lawS6396CWholeSpec : ChangeSpec := { name := "lawS6396CWhole", fn := fun _ => fun
  | [d1, d2] => { results := [.lit (.bool true)], args := [d1, d2] }
  | _ => none }
def lawS6396CWholeRow : OpenClaim := { program := "ybulkebla", sum := "ac1a600b465158dc3a2e7965b8507b9be976cda8525bc436f50ace0237deceb5", func := "example.com/kinmesh/kinmesh/pkg/walk.LawS6396CWhole", spec := "lawS6396CWhole", recurses := true, apart := false }
def LawS6396CWholeSaid : Prop := lawS6396CWholeRow.holds Yba.pinned (OpenSpec.ofChange lawS6396CWholeSpec)

/-- ITS FALSE NEIGHBOUR: 'it returns false'. Refute it at one input. -/
def lawS6396CWholeWrong : ChangeSpec := { name := "lawS6396CWhole", fn := fun _ => fun
  | [d1, d2] => { results := [.lit (.bool false)], args := [d1, d2] }
  | _ => none }
def LawS6396CWholeWrongFalsely : Prop := lawS6396CWholeRow.holds Yba.pinned (OpenSpec.ofChange lawS6396CWholeWrong)

end Rows
end Go.Proofs.Ybulkebla
