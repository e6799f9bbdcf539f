/-
  DERIVED: LAID BY THE SHELF's contract.sh OFF ITS TEMPLATE 'strings.Compare' FOR THE PROGRAM 'Yba' (the function's number there: 37). THE LIBRARY's OWN TEXT IS WALKED: nothing is assumed of it; where it calls a function without a Go body (internal/bytealg), THE MODEL's OWN ENTRY stands in, by its law (Derived/Lib/Bytealg.lean). Behind the contract: ONE FALSE NEIGHBOUR, a contract that says a little too much, REFUTED. (The template: the authors, an AI agent; Sun.)
-/
import Derived.Test.YbulkeblaChecked
import Derived.Lib.Strings
import Derived.Lib.Slices
import Derived.Lib.Walk
import Derived.Lib.Bytealg
import Derived.Test.YbulkeblaCmpStr
namespace Go.Proofs

set_option maxHeartbeats 1000000 in
/-- strings.Compare: `Compare returns an integer comparing two strings lexicographically. The result will be 0 if a == b, -1 if a < b, and +1 if a > b.`: IT RETURNS 'Lib.compareBytes a b'; the world is as it was. -/
theorem Yba.strings_Compare (a b : ByteArray) (w : World) :
    Calls Yba.prog 37 #[.string a, .string b] w fun e w' => e = .returned (.int .i64 (Lib.compareBytes a.data.toList b.data.toList)) ∧ w' = w := by
  go_enter Yba.func37, Yba.ntmps37
  go_wp2_with (go_at_call 59; refine (Yba.bytealg_CompareString _ _ _).mono ?_; rintro e w' ⟨rfl, rfl⟩)
  go_ret
  exact ⟨rfl, rfl⟩

/-- A LITTLE TOO MUCH: 'the shorter string is the lesser': falls at `b`, `aa`. -/
theorem Yba.strings_Compare_not : ¬ ∀ (a b : ByteArray) (w : World),
    Calls Yba.prog 37 #[.string a, .string b] w fun e w' => e = .returned (.int .i64 (if a.size < b.size then -1 else Lib.compareBytes a.data.toList b.data.toList)) ∧ w' = w := by
  intro h
  have e := Lib.agree (by kernel_rfl) (Yba.strings_Compare ⟨#[98]⟩ ⟨#[97, 97]⟩ default) (h ⟨#[98]⟩ ⟨#[97, 97]⟩ default)
  injection e with _ e
  revert e
  decide

end Go.Proofs
