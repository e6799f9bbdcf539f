import Derived.Test.YbulkeblaRows
import Derived.WalkKit
import Derived.ProofKit
import Derived.Below
import Derived.Sort.Row
import Derived.Sort.LotA
import Derived.Sort.LotB
import Derived.Sort.LotC
import Derived.Sort.LotD3
import Derived.Lib.Walk
import Derived.BigGuard
import Derived.BigCall
import Derived.CellFam
import Derived.Deep.Draws
import Derived.Deep.QuietTactic
import Derived.Deep.LoopGhost
import Derived.BigQuiet
/-! The row of 32-bit numbers that a sort works on, and cmp.Less. -/
namespace Go.Proofs.Ybulkebla
open Go.RowKit
set_option linter.unusedVariables false

abbrev e32 : Int → Value := fun x => Value.int .i32 x

/-- The row at 'blk', 'off' holds 'd', 'n' long; since 'w0' nothing below block B has turned. -/
structure St (B blk off n : Nat) (w0 w : World) (d : Array Int) : Prop where
  holds : Sort.Holds e32 w blk off d
  size : d.size = n
  bel : Below B w0 w

theorem drewN_below {B : Nat} {a w : World} (h : Below B a w) (q : Nat) : Below B a (w.drewN q) := ⟨h.os, h.tape, h.output, h.size, h.block⟩

theorem St.cell {B blk off n : Nat} {w0 w : World} {d : Array Int} (h : St B blk off n w0 w d) : ∀ t, t < n → w.cell? ⟨blk, off + t, none⟩ = some (.int .i32 d[t]!) :=
  fun t ht => (h.holds t (by rw [h.size]; exact ht)).1
theorem St.froz {B blk off n : Nat} {w0 w : World} {d : Array Int} (h : St B blk off n w0 w d) : ∀ t, t < n → w.frozen? ⟨blk, off + t, none⟩ = false :=
  fun t ht => (h.holds t (by rw [h.size]; exact ht)).2
theorem St.drewN {B blk off n : Nat} {w0 w : World} {d : Array Int} (h : St B blk off n w0 w d) (q : Nat) : St B blk off n w0 (w.drewN q) d := ⟨h.holds, h.size, drewN_below h.bel q⟩
theorem St.drew {B blk off n : Nat} {w0 w : World} {d : Array Int} (h : St B blk off n w0 w d) : St B blk off n w0 w.drew d := ⟨h.holds, h.size, h.bel.drew⟩

/-- 'data[i], data[j] = data[j], data[i]'. -/
theorem St.swp {B blk off n : Nat} {w0 w : World} {d : Array Int} (h : St B blk off n w0 w d) (hB : B ≤ blk) {i j : Nat} (hi : i < n) (hj : j < n) {x y : Value} (hx : x = e32 d[j]!) (hy : y = e32 d[i]!) :
    St B blk off n w0 ((w.setCell ⟨blk, off + i, none⟩ x).setCell ⟨blk, off + j, none⟩ y) (Sort.swp d i j) := by
  subst hx; subst hy
  refine ⟨?_, by rw [Sort.size_swp]; exact h.size, (h.bel.setCell hB _).setCell hB _⟩
  have hs := h.size
  have e := Sort.putRow_swp e32 w blk off d i j (by omega) (by omega)
  rw [Sort.putRow_self e32 w blk off d h.holds] at e
  rw [e]
  exact Sort.holds_putRow e32 w blk off d _ h.holds (Sort.size_swp _ _ _)

theorem St.trans {B blk off n : Nat} {w0 w w' : World} {d d' : Array Int} (h : St B blk off n w0 w d) (k : St B blk off n w w' d') : St B blk off n w0 w' d' := ⟨k.holds, k.size, h.bel.trans k.bel⟩
theorem St.here {B blk off n : Nat} {w0 w : World} {d : Array Int} (h : St B blk off n w0 w d) : St B blk off n w w d := ⟨h.holds, h.size, Below.refl _ _⟩
/-- Behind a step that turned nothing below Q, with the row's block below Q. -/
theorem St.step {B blk off n Q : Nat} {w0 w w' : World} {d : Array Int} (h : St B blk off n w0 w d) (k : Below Q w w') (hQ : blk < Q) (hB : B ≤ Q) : St B blk off n w0 w' d :=
  ⟨fun j hj => ⟨by rw [k.cell hQ]; exact (h.holds j hj).1, by rw [k.frozen hQ]; exact (h.holds j hj).2⟩, h.size, h.bel.trans (k.mono hB)⟩

set_option maxHeartbeats 1000000 in
theorem isNaN (x : Int) (w : World) : Calls Yba.prog 126 #[.int .i32 x] w fun e w' => e = .returned (.bool false) ∧ w' = w := by
  go_enter Yba.func126, Yba.ntmps126
  go_wp2
  go_ret
  exact ⟨by simp, rfl⟩

set_option maxHeartbeats 1000000 in
theorem less (x y : Int) (w : World) : Calls Yba.prog 87 #[.int .i32 x, .int .i32 y] w fun e w' => e = .returned (.bool (Sort.ltInt x y)) ∧ w' = w := by
  go_enter Yba.func87, Yba.ntmps87
  go_wp2_with (go_at_call 126; refine (isNaN _ _).mono ?_; rintro e w' ⟨rfl, rfl⟩)
  go_ret
  exact ⟨rfl, rfl⟩

end Go.Proofs.Ybulkebla
