import Derived.Test.YbulkeblaALeaf
/-! A row's cells, told by its elements. -/
namespace Go.Proofs.Ybulkebla
open Go.RowKit Go.Lib
set_option linter.unusedVariables false
set_option linter.unusedSectionVars false
variable {α : Type} [Inhabited α]

/-- The row's cells. -/
def fl (enc : α → List Value) (d : List α) : List Value := (d.map enc).flatten
theorem fl_len (enc : α → List Value) (k : Nat) (hk : ∀ x, (enc x).length = k) (d : List α) : (fl enc d).length = d.length * k := by
  induction d with
  | nil => simp [fl]
  | cons x d ih => simp only [fl, List.map_cons, List.flatten_cons, List.length_append, hk, List.length_cons] at ih ⊢; rw [ih, Nat.add_mul]; omega
theorem fl_append (enc : α → List Value) (a b : List α) : fl enc (a ++ b) = fl enc a ++ fl enc b := by simp [fl]
theorem fl_one (enc : α → List Value) (x : α) : fl enc [x] = enc x := by simp [fl]
theorem fl_at (enc : α → List Value) (k : Nat) (hk : ∀ x, (enc x).length = k) : ∀ (d : List α) (i j : Nat) (hi : i < d.length) (hj : j < k), (fl enc d)[i * k + j]? = (enc (d.getD i default))[j]?
  | x :: d, 0, j, hi, hj => by
    simp only [fl, List.map_cons, List.flatten_cons, Nat.zero_mul, Nat.zero_add]
    rw [List.getElem?_append_left (by rw [hk]; exact hj)]; rfl
  | x :: d, i + 1, j, hi, hj => by
    simp only [fl, List.map_cons, List.flatten_cons]
    rw [List.getElem?_append_right (by rw [hk, Nat.add_mul]; omega), hk, show (i + 1) * k + j - k = i * k + j by rw [Nat.add_mul]; omega]
    exact fl_at enc k hk d i j (by simpa using hi) hj

end Go.Proofs.Ybulkebla
