import Derived.Test.YbulkeblaASf
/-! zzs6396aorder (12). -/
namespace Go.Proofs.Ybulkebla
open Go.Shelf Go.RowKit Go.Lib
set_option linter.unusedVariables false

theorem size49 (w : World) : (Go.sizeOf 49).run Yba.prog w = .ok 6 w := by kernel_rfl
theorem agg49 (w : World) : (isAgg 49).run Yba.prog w = .ok true w := by kernel_rfl

set_option maxHeartbeats 1000000 in
theorem aorder (w : World) : Calls Yba.prog 12 #[] w fun e w' => e = .returned (.agg #[.int .i64 3, .int .i64 5, .int .i64 1, .int .i64 4, .int .i64 0, .int .i64 2]) ∧ Below w.heap.size w w' := by
  go_enter Yba.func12, Yba.ntmps12
  go_wp2_with fail
  refine bodyPost_ret (v := .agg #[.int .i64 3, .int .i64 5, .int .i64 1, .int .i64 4, .int .i64 0, .int .i64 2]) ?_ rfl ⟨rfl, (Below.refl _ w).alloc (Nat.le_refl _) _⟩
  simp [results]
  have h1 := size49
  have h2 := agg49
  unfold asAddr loadVar
  go_simp

end Go.Proofs.Ybulkebla
