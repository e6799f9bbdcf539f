import Derived.Test.YbulkebneBWalk
/-! LawS6400BWhole (function 4) at no element and at too many. -/
namespace Go.Proofs.Ybulkebne
open Go.RowKit
set_option linter.unusedVariables false

set_option maxRecDepth 100000 in
set_option maxHeartbeats 800000 in
theorem lawB_big (wid hd : Int) (a : Option Addr) (len cap : Nat) (w : World) (hm : len ≤ maxLen) (hlen : ¬ len ≤ 1048576) :
    Calls Yba.prog 4 #[.int .i64 wid, .int .i64 hd, .slice a len cap] w fun e w' => e = .returned (.bool true) ∧ Below w.heap.size w w' := by
  unfold maxLen at hm
  go_enter Yba.func4, Yba.ntmps4
  go_wp2_with fail
  go_ret
  exact ⟨rfl, Below.refl _ _⟩

set_option maxRecDepth 100000 in
set_option maxHeartbeats 800000 in
theorem lawB_nil (wid hd : Int) (cap : Nat) (w : World) :
    Calls Yba.prog 4 #[.int .i64 wid, .int .i64 hd, .slice none (0 : Nat) cap] w fun e w' => e = .returned (.bool true) ∧ Below w.heap.size w w' := by
  have n80 : ∀ (w : World) (a : Option Addr) (n c n' c' : Nat), (binOp .neq 80 (.slice a n c) (.slice none n' c')).run Yba.prog w = .ok (.bool (!a.isNone)) w := fun w a n c n' c' => run_neq_slice_nil_any w _ _ a n c n' c' Yba.underlying80
  have n57 : ∀ (w : World) (a : Option Addr) (n c n' c' : Nat), (binOp .neq 57 (.slice a n c) (.slice none n' c')).run Yba.prog w = .ok (.bool (!a.isNone)) w := fun w a n c n' c' => run_neq_slice_nil_any w _ _ a n c n' c' Yba.underlying57
  have q80 : ∀ (w : World) (a : Option Addr) (n c n' c' : Nat), (binOp .eql 80 (.slice a n c) (.slice none n' c')).run Yba.prog w = .ok (.bool a.isNone) w := fun w a n c n' c' => Lib.run_eql_slice_nil w _ _ a n c n' c' Yba.underlying80
  have q56 : ∀ (w : World) (a : Option Addr) (n c n' c' : Nat), (binOp .eql 56 (.slice a n c) (.slice none n' c')).run Yba.prog w = .ok (.bool a.isNone) w := fun w a n c n' c' => Lib.run_eql_slice_nil w _ _ a n c n' c' Yba.underlying56
  go_enter Yba.func4, Yba.ntmps4
  go_wp2_with fail
  refine (total_empty w.heap.size none 0 (w.alloc (.cells #[.int .i64 wid, .int .i64 hd, .slice none 0 0, .slice none 0 0] 59)) (by simp) (by simp)).mono ?_
  rintro e w2 ⟨rfl, hb2⟩
  have hz2 : w.heap.size < w2.heap.size := by have := hb2.size; simp at this; omega
  have hw0 : w2.cell? ⟨w.heap.size, 0, none⟩ = some (.int .i64 wid) := (hb2.cell (p := ⟨w.heap.size, 0, none⟩) (by simp)).trans (by simp)
  have hw1 : w2.cell? ⟨w.heap.size, 1, none⟩ = some (.int .i64 hd) := (hb2.cell (p := ⟨w.heap.size, 1, none⟩) (by simp)).trans (by simp)
  have hw2 : w2.cell? ⟨w.heap.size, 2, none⟩ = some (.slice none 0 0) := (hb2.cell (p := ⟨w.heap.size, 2, none⟩) (by simp)).trans (by simp)
  have hw3 : w2.cell? ⟨w.heap.size, 3, none⟩ = some (.slice none 0 0) := (hb2.cell (p := ⟨w.heap.size, 3, none⟩) (by simp)).trans (by simp)
  go_wp2_with fail
  refine wp_loop_rounds 1 ?_
  rw [rounds_succ]
  go_wp2_with fail
  refine wp_loop_rounds 1 ?_
  rw [rounds_succ]
  go_wp2_with fail
  refine wp_loop_rounds 1 ?_
  rw [rounds_succ]
  go_wp2_with fail
  refine wp_loop_rounds 1 ?_
  rw [rounds_succ]
  go_wp2_with fail
  go_ret
  exact ⟨rfl, (((Below.refl _ w).alloc (Nat.le_refl _) _).trans (hb2.mono (by simp))).alloc (by omega) _⟩

set_option maxRecDepth 100000 in
set_option maxHeartbeats 800000 in
theorem lawB_zero (wid hd : Int) (ad : Addr) (cap : Nat) (w : World) :
    Calls Yba.prog 4 #[.int .i64 wid, .int .i64 hd, .slice (some ad) (0 : Nat) cap] w fun e w' => e = .returned (.bool true) ∧ Below w.heap.size w w' := by
  have n80 : ∀ (w : World) (a : Option Addr) (n c n' c' : Nat), (binOp .neq 80 (.slice a n c) (.slice none n' c')).run Yba.prog w = .ok (.bool (!a.isNone)) w := fun w a n c n' c' => run_neq_slice_nil_any w _ _ a n c n' c' Yba.underlying80
  have n57 : ∀ (w : World) (a : Option Addr) (n c n' c' : Nat), (binOp .neq 57 (.slice a n c) (.slice none n' c')).run Yba.prog w = .ok (.bool (!a.isNone)) w := fun w a n c n' c' => run_neq_slice_nil_any w _ _ a n c n' c' Yba.underlying57
  have q80 : ∀ (w : World) (a : Option Addr) (n c n' c' : Nat), (binOp .eql 80 (.slice a n c) (.slice none n' c')).run Yba.prog w = .ok (.bool a.isNone) w := fun w a n c n' c' => Lib.run_eql_slice_nil w _ _ a n c n' c' Yba.underlying80
  have q56 : ∀ (w : World) (a : Option Addr) (n c n' c' : Nat), (binOp .eql 56 (.slice a n c) (.slice none n' c')).run Yba.prog w = .ok (.bool a.isNone) w := fun w a n c n' c' => Lib.run_eql_slice_nil w _ _ a n c n' c' Yba.underlying56
  have hmk : ∀ w : World, (Instr.makeSlice 56 (.int .i64 0) (.int .i64 0)).run Yba.prog w = .ok (.slice (some ⟨w.heap.size, 0, none⟩) 0 0) (w.alloc (.cells #[] 84)) := by
    intro w
    have := run_make (P := Yba.prog) w 56 84 Yba.t84 (.agg #[.int .i64 0, .int .i64 0, .int .i64 0]) Yba.underlying56 info84 rfl .i64 .i64 0 0 (by omega) (by omega) (by simp [Yba.t84]) (by omega)
    simpa [Yba.t84, Value.cells, madeCells, Array.range_zero'] using this
  go_enter Yba.func4, Yba.ntmps4
  go_wp2_with fail
  refine wp_loop_rounds 1 ?_
  rw [rounds_succ]
  go_wp2_with fail
  refine (total_empty (w.heap.size + 1) (some ⟨w.heap.size, 0, none⟩) 0 ((w.alloc (.cells #[] 84)).alloc (.cells #[.int .i64 wid, .int .i64 hd, .slice (some ⟨w.heap.size, 0, none⟩) 0 0, .slice none 0 0] 59)) (by simp) (by simp)).mono ?_
  rintro e w2 ⟨rfl, hb2⟩
  have hz2 : w.heap.size + 1 < w2.heap.size := by have := hb2.size; simp at this; omega
  have hw0 : w2.cell? ⟨w.heap.size + 1, 0, none⟩ = some (.int .i64 wid) := (hb2.cell (p := ⟨w.heap.size + 1, 0, none⟩) (by simp)).trans (by simp)
  have hw1 : w2.cell? ⟨w.heap.size + 1, 1, none⟩ = some (.int .i64 hd) := (hb2.cell (p := ⟨w.heap.size + 1, 1, none⟩) (by simp)).trans (by simp)
  have hw2 : w2.cell? ⟨w.heap.size + 1, 2, none⟩ = some (.slice (some ⟨w.heap.size, 0, none⟩) 0 0) := (hb2.cell (p := ⟨w.heap.size + 1, 2, none⟩) (by simp)).trans (by simp)
  have hw3 : w2.cell? ⟨w.heap.size + 1, 3, none⟩ = some (.slice none 0 0) := (hb2.cell (p := ⟨w.heap.size + 1, 3, none⟩) (by simp)).trans (by simp)
  go_wp2_with fail
  refine wp_loop_rounds 1 ?_
  rw [rounds_succ]
  go_wp2_with fail
  refine wp_loop_rounds 1 ?_
  rw [rounds_succ]
  go_wp2_with fail
  refine wp_loop_rounds 1 ?_
  rw [rounds_succ]
  go_wp2_with fail
  refine wp_loop_rounds 1 ?_
  rw [rounds_succ]
  go_wp2_with fail
  go_ret
  exact ⟨rfl, ((((Below.refl _ w).alloc (Nat.le_refl _) _).alloc (by simp) _).trans (hb2.mono (by simp; omega))).alloc (by omega) _⟩
end Go.Proofs.Ybulkebne
