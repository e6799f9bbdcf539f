import Derived.Test.YbulkeblaASpan
import Derived.WalkKit
import Derived.ProofKit
import Derived.Below
import Derived.Lib.Walk
import Derived.Laws.OwnMore
/-! The call's own rows, each under a label; no two in one block. -/
namespace Go.Proofs.Ybulkebla
open Go.RowKit Go.Lib
set_option linter.unusedVariables false

/-- A row of the call's own: the slice value, its element's type and size, its length, its cells. -/
structure Rw where
  v : Value
  e : TypeId
  k : Nat
  n : Nat
  xs : List Value

abbrev Lb := Nat × Nat
def upd (ρ : Lb → Option Rw) (l : Lb) (x : Option Rw) : Lb → Option Rw := fun l' => if l' = l then x else ρ l'
theorem upd_same (ρ : Lb → Option Rw) (l : Lb) (x : Option Rw) : upd ρ l x l = x := by simp [upd]
theorem upd_other (ρ : Lb → Option Rw) {l l' : Lb} (x : Option Rw) (h : l' ≠ l) : upd ρ l x l' = ρ l' := by simp [upd, h]

structure Mem (w : World) (B : Nat) (ρ : Lb → Option Rw) : Prop where
  own : ∀ l r, ρ l = some r → w.ownsRow B r.e r.k r.v r.n r.xs
  apart : ∀ l l' r r' g, ρ l = some r → ρ l' = some r' → r.v.ownBlock = some g → r'.v.ownBlock = some g → l = l'

theorem mem_none (w : World) (B : Nat) : Mem w B (fun _ => none) := ⟨fun _ _ h => (by cases h), fun _ _ _ _ _ h => (by cases h)⟩

theorem Mem.lt {w : World} {B : Nat} {ρ : Lb → Option Rw} (h : Mem w B ρ) {l : Lb} {r : Rw} (hl : ρ l = some r) {g : Nat} (hg : r.v.ownBlock = some g) : B ≤ g ∧ g < w.heap.size := (h.own l r hl).lt g hg

/-- A step that turns none of the rows' blocks. -/
theorem Mem.kept {w w' : World} {B : Nat} {ρ : Lb → Option Rw} (h : Mem w B ρ) {row : Option Nat} (hg : w.grownBy w' row) (hne : ∀ l r, ρ l = some r → ∀ g, row = some g → r.v.ownBlock ≠ some g) : Mem w' B ρ := by
  refine ⟨fun l r hl => (h.own l r hl).kept hg ?_, h.apart⟩
  cases hr : row with
  | none =>
    cases hv : r.v.ownBlock with
    | none => exact .inl rfl
    | some g => exact .inr (by simp)
  | some g => exact .inr (hne l r hl g hr)
theorem Mem.kept0 {w w' : World} {B : Nat} {ρ : Lb → Option Rw} (h : Mem w B ρ) (hg : w.grownBy w' none) : Mem w' B ρ := h.kept hg (fun _ _ _ _ e => by cases e)
theorem Mem.below {w w' : World} {B : Nat} {ρ : Lb → Option Rw} (h : Mem w B ρ) (hb : Below w.heap.size w w') : Mem w' B ρ :=
  h.kept0 ⟨hb.os, hb.tape, hb.output, hb.size, fun i hi _ => hb.block i hi⟩

/-- One row's step: an append, a store, a sort. -/
theorem Mem.put {w w' : World} {B : Nat} {ρ : Lb → Option Rw} (h : Mem w B ρ) {l : Lb} {r : Rw} (hl : ρ l = some r) (hg : w.grownBy w' r.v.ownBlock) {v' : Value} {n' : Nat} {xs' : List Value}
    (ho : w'.ownsRow B r.e r.k v' n' xs') (hat : ∀ g, v'.ownBlock = some g → r.v.ownBlock = some g ∨ w.heap.size ≤ g) : Mem w' B (upd ρ l (some ⟨v', r.e, r.k, n', xs'⟩)) := by
  have key : ∀ l2 r2 g, l2 ≠ l → ρ l2 = some r2 → r2.v.ownBlock = some g → v'.ownBlock = some g → False := fun l2 r2 g hne h2 hg2 hg' => by
    rcases hat g hg' with e | e
    · exact hne (h.apart _ _ _ _ g h2 hl hg2 e)
    · have := (h.lt h2 hg2).2; omega
  refine ⟨fun l2 r2 h2 => ?_, fun l1 l2 r1 r2 g h1 h2 g1 g2 => ?_⟩
  · by_cases e : l2 = l
    · subst e; rw [upd_same] at h2; cases h2; exact ho
    · rw [upd_other _ _ e] at h2
      refine (h.own l2 r2 h2).kept hg ?_
      cases hv : r2.v.ownBlock with
      | none => exact .inl rfl
      | some g => exact .inr (fun e2 => e (h.apart _ _ _ _ g h2 hl hv e2.symm))
  · by_cases e1 : l1 = l <;> by_cases e2 : l2 = l
    · rw [e1, e2]
    · subst e1; rw [upd_same] at h1; cases h1; rw [upd_other _ _ e2] at h2
      exact (key l2 r2 g e2 h2 g2 g1).elim
    · subst e2; rw [upd_same] at h2; cases h2; rw [upd_other _ _ e1] at h1
      exact (key l1 r1 g e1 h1 g1 g2).elim
    · rw [upd_other _ _ e1] at h1; rw [upd_other _ _ e2] at h2
      exact h.apart _ _ _ _ g h1 h2 g1 g2

/-- A new row. -/
theorem Mem.new {w w' : World} {B : Nat} {ρ : Lb → Option Rw} (h : Mem w B ρ) (l : Lb) (hg : w.grownBy w' none) (r : Rw) (ho : w'.ownsRow B r.e r.k r.v r.n r.xs) (hat : ∀ g, r.v.ownBlock = some g → w.heap.size ≤ g) :
    Mem w' B (upd ρ l (some r)) := by
  have hk := h.kept0 hg
  have key : ∀ l2 r2 g, l2 ≠ l → ρ l2 = some r2 → r2.v.ownBlock = some g → r.v.ownBlock = some g → False := fun l2 r2 g hne h2 hg2 hg' => by
    have h1 := hat g hg'
    have := (h.lt h2 hg2).2; omega
  refine ⟨fun l2 r2 h2 => ?_, fun l1 l2 r1 r2 g h1 h2 g1 g2 => ?_⟩
  · by_cases e : l2 = l
    · subst e; rw [upd_same] at h2; cases h2; exact ho
    · rw [upd_other _ _ e] at h2; exact hk.own l2 r2 h2
  · by_cases e1 : l1 = l <;> by_cases e2 : l2 = l
    · rw [e1, e2]
    · subst e1; rw [upd_same] at h1; cases h1; rw [upd_other _ _ e2] at h2
      exact (key l2 r2 g e2 h2 g2 g1).elim
    · subst e2; rw [upd_same] at h2; cases h2; rw [upd_other _ _ e1] at h1
      exact (key l1 r1 g e1 h1 g1 g2).elim
    · rw [upd_other _ _ e1] at h1; rw [upd_other _ _ e2] at h2
      exact h.apart _ _ _ _ g h1 h2 g1 g2

/-- A row that is no longer wanted. -/
theorem Mem.drop {w : World} {B : Nat} {ρ : Lb → Option Rw} (h : Mem w B ρ) (l : Lb) : Mem w B (upd ρ l none) := by
  have sub : ∀ l2 r2, upd ρ l none l2 = some r2 → ρ l2 = some r2 := fun l2 r2 h2 => by
    by_cases e : l2 = l
    · subst e; rw [upd_same] at h2; cases h2
    · rw [upd_other _ _ e] at h2; exact h2
  exact ⟨fun l2 r2 h2 => h.own _ _ (sub _ _ h2), fun l1 l2 r1 r2 g h1 h2 => h.apart _ _ _ _ g (sub _ _ h1) (sub _ _ h2)⟩

/-- A store into a row's cell. -/
theorem Mem.store {w : World} {B : Nat} {ρ : Lb → Option Rw} (h : Mem w B ρ) {l : Lb} {g n cap : Nat} {e : TypeId} {k : Nat} {xs : List Value} (hl : ρ l = some ⟨.slice (some ⟨g, 0, none⟩) n cap, e, k, n, xs⟩) (j : Nat) (u : Value) :
    Mem (w.setCell ⟨g, j, none⟩ u) B (upd ρ l (some ⟨.slice (some ⟨g, 0, none⟩) n cap, e, k, n, xs.set j u⟩)) := by
  have ho := h.own _ _ hl
  have st := World.ownsRow.stored ho j u
  exact h.put (r := ⟨.slice (some ⟨g, 0, none⟩) n cap, e, k, n, xs⟩) hl st.2 st.1 (fun g' hg' => .inl hg')

/-- A row's cell reads. -/
theorem Mem.cell {w : World} {B : Nat} {ρ : Lb → Option Rw} (h : Mem w B ρ) {l : Lb} {g n cap : Nat} {e : TypeId} {k : Nat} {xs : List Value} (hl : ρ l = some ⟨.slice (some ⟨g, 0, none⟩) n cap, e, k, n, xs⟩) (j : Nat) (hj : j < n * k) : w.cell? ⟨g, j, none⟩ = xs[j]? :=
  (h.own _ _ hl).cellAt j hj
theorem Mem.froz {w : World} {B : Nat} {ρ : Lb → Option Rw} (h : Mem w B ρ) {l : Lb} {g n cap : Nat} {e : TypeId} {k : Nat} {xs : List Value} (hl : ρ l = some ⟨.slice (some ⟨g, 0, none⟩) n cap, e, k, n, xs⟩) (j : Nat) : w.frozen? ⟨g, j, none⟩ = false :=
  (h.own _ _ hl).frozenAt j

end Go.Proofs.Ybulkebla
