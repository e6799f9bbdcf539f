/-
  DERIVED: LAID BY THE SHELF's contract.sh OFF ITS TEMPLATE 'internal/bytealg.CompareString' FOR THE PROGRAM 'Yba' (the function's number there: 59). THE LIBRARY's OWN TEXT IS WALKED: nothing is assumed of it; where it calls a function without a Go body (internal/bytealg), THE MODEL's OWN ENTRY stands in, by its law (Derived/Lib/Bytealg.lean). Behind the contract: ONE FALSE NEIGHBOUR, a contract that says a little too much, REFUTED. (The template: the authors, an AI agent; Sun.)
-/
import Derived.Test.YbulkeblaChecked
import Derived.Lib.Strings
import Derived.Lib.Slices
import Derived.Lib.Walk
import Derived.Lib.Bytealg
namespace Go.Proofs

set_option maxHeartbeats 1000000 in
set_option maxRecDepth 100000 in
/-- internal/bytealg.CompareString (what strings.Compare calls): IT RETURNS 'Lib.compareBytes a b'; the world is as it was. -/
theorem Yba.bytealg_CompareString (a b : ByteArray) (w : World) :
    Calls Yba.prog 59 #[.string a, .string b] w fun e w' => e = .returned (.int .i64 (Lib.compareBytes a.data.toList b.data.toList)) ∧ w' = w := by
  go_enter Yba.func59, Yba.ntmps59
  go_wp2
  rw [run_callFunc_extern Yba.func112 (by kernel_rfl) (by kernel_rfl) (by kernel_rfl) (e := Extern.BytealgCompare.compare) (by kernel_rfl), Lib.run_compareString]
  simp only [Result.andThen]
  rw [Oper.upon_value]
  go_wp2
  go_ret
  exact ⟨rfl, rfl⟩

end Go.Proofs
