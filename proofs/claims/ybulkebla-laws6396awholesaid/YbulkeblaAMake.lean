import Derived.Test.YbulkeblaARank
import Derived.Laws.MakeOwn
/-! make at the slice types of law A's road. -/
namespace Go.Proofs.Ybulkebla
open Go.Shelf Go.RowKit Go.Lib
set_option linter.unusedVariables false

theorem made_one (z : Value) (n : Nat) : madeCells #[z] n = (List.replicate n z).toArray := by
  apply Array.ext_getElem?
  intro j
  by_cases h : j < n
  · simp [madeCells, h, Nat.mod_one]
  · simp [madeCells, h]

theorem own_made (w : World) (z : Value) (n : Nat) (e : TypeId) (hn : n ≤ maxLen) : (w.alloc (.cells (List.replicate n z).toArray e)).ownsRow w.heap.size e 1 (.slice (some ⟨w.heap.size, 0, none⟩) n n) n (List.replicate n z) := by
  have h := World.ownsRow_lit (e := e) (size := 1) (base := w.heap.size) w (List.replicate n z).toArray n (Nat.le_refl _) hn (by simp)
  simpa using h

theorem make38 (w : World) (n : Nat) (hn : n ≤ 65600) : (Instr.makeSlice 38 (.int .i64 (n : Int)) (.int .i64 (n : Int))).run Yba.prog w = .ok (.slice (some ⟨w.heap.size, 0, none⟩) n n) (w.alloc (.cells (List.replicate n (.int .i64 0)).toArray 2)) := by
  have hi : Yba.prog.info? 2 = some Yba.t2 := by kernel_rfl
  have := run_make (P := Yba.prog) w 38 2 Yba.t2 (.int .i64 0) Yba.underlying38 hi rfl .i64 .i64 n n (by omega) (by omega) (by simp [Yba.t2]; omega) (by omega)
  rw [← made_one]
  simpa [Yba.t2, Value.cells] using this

theorem make39 (w : World) (n : Nat) (hn : n ≤ 65600) : (Instr.makeSlice 39 (.int .i64 (n : Int)) (.int .i64 (n : Int))).run Yba.prog w = .ok (.slice (some ⟨w.heap.size, 0, none⟩) n n) (w.alloc (.cells (List.replicate n (.slice none 0 0)).toArray 54)) := by
  have hi : Yba.prog.info? 54 = some Yba.t54 := by kernel_rfl
  have := run_make (P := Yba.prog) w 39 54 Yba.t54 (.slice none 0 0) Yba.underlying39 hi rfl .i64 .i64 n n (by omega) (by omega) (by simp [Yba.t54]; omega) (by omega)
  rw [← made_one]
  simpa [Yba.t54, Value.cells] using this

theorem make41 (w : World) (n : Nat) (hn : n ≤ 65600) : (Instr.makeSlice 41 (.int .i64 (n : Int)) (.int .i64 (n : Int))).run Yba.prog w = .ok (.slice (some ⟨w.heap.size, 0, none⟩) n n) (w.alloc (.cells (List.replicate n (.string ⟨#[]⟩)).toArray 9)) := by
  have hi : Yba.prog.info? 9 = some Yba.t9 := by kernel_rfl
  have := run_make (P := Yba.prog) w 41 9 Yba.t9 (.string ⟨#[]⟩) Yba.underlying41 hi rfl .i64 .i64 n n (by omega) (by omega) (by simp [Yba.t9]; omega) (by omega)
  rw [← made_one]
  simpa [Yba.t9, Value.cells] using this

theorem make23 (w : World) (n : Nat) (hn : n ≤ 65600) : (Instr.makeSlice 23 (.int .i64 (n : Int)) (.int .i64 (n : Int))).run Yba.prog w = .ok (.slice (some ⟨w.heap.size, 0, none⟩) n n) (w.alloc (.cells (List.replicate n (.slice none 0 0)).toArray 30)) := by
  have hi : Yba.prog.info? 30 = some Yba.t30 := by kernel_rfl
  have := run_make (P := Yba.prog) w 23 30 Yba.t30 (.slice none 0 0) Yba.underlying23 hi rfl .i64 .i64 n n (by omega) (by omega) (by simp [Yba.t30]; omega) (by omega)
  rw [← made_one]
  simpa [Yba.t30, Value.cells] using this

theorem make40 (w : World) (n : Nat) (hn : n ≤ 65600) : (Instr.makeSlice 40 (.int .i64 (n : Int)) (.int .i64 (n : Int))).run Yba.prog w = .ok (.slice (some ⟨w.heap.size, 0, none⟩) n n) (w.alloc (.cells (List.replicate n (.slice none 0 0)).toArray 51)) := by
  have hi : Yba.prog.info? 51 = some Yba.t51 := by kernel_rfl
  have := run_make (P := Yba.prog) w 40 51 Yba.t51 (.slice none 0 0) Yba.underlying40 hi rfl .i64 .i64 n n (by omega) (by omega) (by simp [Yba.t51]; omega) (by omega)
  rw [← made_one]
  simpa [Yba.t51, Value.cells] using this

theorem make48 (w : World) (n : Nat) (hn : n ≤ 65600) : (Instr.makeSlice 48 (.int .i64 (n : Int)) (.int .i64 (n : Int))).run Yba.prog w = .ok (.slice (some ⟨w.heap.size, 0, none⟩) n n) (w.alloc (.cells (List.replicate n (.bool false)).toArray 4)) := by
  have hi : Yba.prog.info? 4 = some Yba.t4 := by kernel_rfl
  have := run_make (P := Yba.prog) w 48 4 Yba.t4 (.bool false) Yba.underlying48 hi rfl .i64 .i64 n n (by omega) (by omega) (by simp [Yba.t4]; omega) (by omega)
  rw [← made_one]
  simpa [Yba.t4, Value.cells] using this

end Go.Proofs.Ybulkebla
