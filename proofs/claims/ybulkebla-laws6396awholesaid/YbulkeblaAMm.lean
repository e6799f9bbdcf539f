import Derived.Test.YbulkeblaAMem
import Derived.Maps.RangeWalk
import Derived.Deep.Draws
import Derived.Deep.AppendLies
/-! The call's own rows, and the memory below them as it was. -/
namespace Go.Proofs.Ybulkebla
open Go.RowKit Go.Lib
set_option linter.unusedVariables false

structure Mm (w0 w : World) (B : Nat) (ρ : Lb → Option Rw) : Prop where
  mem : Mem w B ρ
  bel : Below B w0 w
  le : B ≤ w.heap.size

abbrev bk (g : Nat) (e : TypeId) (k n cap : Nat) (xs : List Value) : Rw := ⟨.slice (some ⟨g, 0, none⟩) n cap, e, k, n, xs⟩

theorem upd_upd (ρ : Lb → Option Rw) (l : Lb) (x y : Option Rw) : upd (upd ρ l x) l y = upd ρ l y := by
  funext l'
  by_cases e : l' = l
  · subst e; simp [upd]
  · simp [upd, e]
theorem upd_self (ρ : Lb → Option Rw) (l : Lb) (x : Option Rw) (h : ρ l = x) : upd ρ l x = ρ := by
  funext l'
  by_cases e : l' = l
  · subst e; rw [upd_same, h]
  · rw [upd_other _ _ e]

section
variable {w0 w w' : World} {B : Nat} {ρ : Lb → Option Rw}

theorem below_of {row : Option Nat} (hg : w.grownBy w' row) (hB : B ≤ w.heap.size) (hr : ∀ g, row = some g → B ≤ g) : Below B w w' :=
  ⟨hg.os, hg.tape, hg.output, hg.size, fun k hk => hg.block k (by omega) (fun e => by have := hr k e.symm; omega)⟩

theorem Mm.grown (h : Mm w0 w B ρ) (hg : w.grownBy w' none) : Mm w0 w' B ρ :=
  ⟨h.mem.kept0 hg, h.bel.trans (below_of hg h.le (fun g e => by cases e)), Nat.le_trans h.le hg.size⟩
theorem Mm.alloc (h : Mm w0 w B ρ) (o : Obj) : Mm w0 (w.alloc o) B ρ := h.grown (World.grownBy_alloc w o none)
theorem grown_drewN (w : World) (q : Nat) (r : Option Nat) : w.grownBy (w.drewN q) r := ⟨rfl, rfl, rfl, Nat.le_refl _, fun _ _ _ => rfl⟩
theorem grown_drew (w : World) (r : Option Nat) : w.grownBy w.drew r := ⟨rfl, rfl, rfl, Nat.le_refl _, fun _ _ _ => rfl⟩
theorem Mm.drewN (h : Mm w0 w B ρ) (q : Nat) : Mm w0 (w.drewN q) B ρ := h.grown (grown_drewN w q none)
theorem Mm.drew (h : Mm w0 w B ρ) : Mm w0 w.drew B ρ := h.grown (grown_drew w none)
theorem Mm.below (h : Mm w0 w B ρ) (hb : Below w.heap.size w w') : Mm w0 w' B ρ :=
  h.grown ⟨hb.os, hb.tape, hb.output, hb.size, fun i hi _ => hb.block i hi⟩

theorem Mm.lt (h : Mm w0 w B ρ) {l : Lb} {g n cap : Nat} {e : TypeId} {k : Nat} {xs : List Value} (hl : ρ l = some (bk g e k n cap xs)) : g < w.heap.size := (h.mem.lt hl rfl).2
theorem Mm.base (h : Mm w0 w B ρ) {l : Lb} {r : Rw} (hl : ρ l = some r) {g : Nat} (hg : r.v.ownBlock = some g) : B ≤ g := (h.mem.lt hl hg).1
theorem Mm.cell (h : Mm w0 w B ρ) {l : Lb} {g n cap : Nat} {e : TypeId} {k : Nat} {xs : List Value} (hl : ρ l = some (bk g e k n cap xs)) (j : Nat) {u : Value} (hu : xs[j]? = some u) : w.cell? ⟨g, j, none⟩ = some u := by
  have ho := h.mem.own _ _ hl
  have hj : j < n * k := by
    have := ho.1
    have hlt := (List.getElem?_eq_some_iff.1 hu).1
    simp only at this; omega
  rw [h.mem.cell hl j hj, hu]
theorem Mm.froz (h : Mm w0 w B ρ) {l : Lb} {g n cap : Nat} {e : TypeId} {k : Nat} {xs : List Value} (hl : ρ l = some (bk g e k n cap xs)) (j : Nat) : w.frozen? ⟨g, j, none⟩ = false := h.mem.froz hl j
theorem Mm.ne (h : Mm w0 w B ρ) {l l' : Lb} {g g' n n' cap cap' : Nat} {e e' : TypeId} {k k' : Nat} {xs xs' : List Value} (hl : ρ l = some (bk g e k n cap xs)) (hl' : ρ l' = some (bk g' e' k' n' cap' xs')) (hne : l ≠ l') : g ≠ g' :=
  fun e => hne (h.mem.apart _ _ _ _ g hl hl' rfl (by subst e; rfl))
theorem Mm.apart (h : Mm w0 w B ρ) {l l' : Lb} {r r' : Rw} (hl : ρ l = some r) (hl' : ρ l' = some r') (hne : l ≠ l') {g : Nat} (hg : r'.v.ownBlock = some g) : r.v.ownBlock ≠ some g :=
  fun e => hne (h.mem.apart _ _ _ _ g hl hl' e hg)

theorem Mm.put (h : Mm w0 w B ρ) {l : Lb} {r : Rw} (hl : ρ l = some r) (hg : w.grownBy w' r.v.ownBlock) {v' : Value} {n' : Nat} {xs' : List Value}
    (ho : w'.ownsRow B r.e r.k v' n' xs') (hat : ∀ g, v'.ownBlock = some g → r.v.ownBlock = some g ∨ w.heap.size ≤ g) : Mm w0 w' B (upd ρ l (some ⟨v', r.e, r.k, n', xs'⟩)) :=
  ⟨h.mem.put hl hg ho hat, h.bel.trans (below_of hg h.le (fun g e => h.base hl e)), Nat.le_trans h.le hg.size⟩
theorem Mm.store (h : Mm w0 w B ρ) {l : Lb} {g n cap : Nat} {e : TypeId} {k : Nat} {xs : List Value} (hl : ρ l = some (bk g e k n cap xs)) (j : Nat) (u : Value) :
    Mm w0 (w.setCell ⟨g, j, none⟩ u) B (upd ρ l (some (bk g e k n cap (xs.set j u)))) := by
  have st := World.ownsRow.stored (h.mem.own _ _ hl) j u
  exact h.put (r := bk g e k n cap xs) hl st.2 st.1 (fun g' hg' => .inl hg')
theorem Mm.new (h : Mm w0 w B ρ) (l : Lb) (hg : w.grownBy w' none) (r : Rw) (ho : w'.ownsRow B r.e r.k r.v r.n r.xs) (hat : ∀ g, r.v.ownBlock = some g → w.heap.size ≤ g) : Mm w0 w' B (upd ρ l (some r)) :=
  ⟨h.mem.new l hg r ho hat, h.bel.trans (below_of hg h.le (fun g e => by cases e)), Nat.le_trans h.le hg.size⟩
theorem own_base {w : World} {B B' : Nat} {e : TypeId} {k : Nat} {v : Value} {n : Nat} {xs : List Value} (h : w.ownsRow B e k v n xs) (hB : B' ≤ B) : w.ownsRow B' e k v n xs := by
  obtain ⟨h1, h2⟩ := h
  refine ⟨h1, ?_⟩
  rcases h2 with h2 | ⟨g, cap, cur, e1, e2, e3⟩
  · exact .inl h2
  · exact .inr ⟨g, cap, cur, e1, Nat.le_trans hB e2, e3⟩
/-- A callee's new row. -/
theorem Mm.made (h : Mm w0 w B ρ) (l : Lb) (hb : Below w.heap.size w w') (r : Rw) (ho : w'.ownsRow w.heap.size r.e r.k r.v r.n r.xs) : Mm w0 w' B (upd ρ l (some r)) :=
  h.new l ⟨hb.os, hb.tape, hb.output, hb.size, fun i hi _ => hb.block i hi⟩ r (own_base ho h.le) (fun g hg => (ho.lt g hg).1)
theorem own_new (w : World) (cs : Array Value) (e : TypeId) (k n : Nat) (hn : n ≤ maxLen) (hs : cs.size = n * k) : (w.alloc (.cells cs e)).ownsRow w.heap.size e k (.slice (some ⟨w.heap.size, 0, none⟩) n n) n cs.toList := by
  refine ⟨by simp [hs], .inr ⟨w.heap.size, n, cs, rfl, Nat.le_refl _, ?_, Nat.le_refl _, hn, hs, ?_⟩⟩
  · exact heap_alloc_new w _
  · rw [← hs]; exact List.take_of_length_le (by simp)
/-- A new block. -/
theorem Mm.box (h : Mm w0 w B ρ) (l : Lb) (cs : Array Value) (e : TypeId) (k n : Nat) (hn : n ≤ maxLen) (hs : cs.size = n * k) {g : Nat} (hgs : w.heap.size = g) : Mm w0 (w.alloc (.cells cs e)) B (upd ρ l (some (bk g e k n n cs.toList))) := by
  subst hgs
  exact h.new l (World.grownBy_alloc w _ none) _ (own_base (own_new w cs e k n hn hs) h.le) (fun g hg => by cases hg; exact Nat.le_refl _)
theorem Mm.drop (h : Mm w0 w B ρ) (l : Lb) : Mm w0 w B (upd ρ l none) := ⟨h.mem.drop l, h.bel, h.le⟩
/-- A step that turns a block which no row has. -/
theorem Mm.beside (h : Mm w0 w B ρ) {b : Nat} (hg : w.grownBy w' (some b)) (hB : B ≤ b) (hne : ∀ l r, ρ l = some r → r.v.ownBlock ≠ some b) : Mm w0 w' B ρ :=
  ⟨h.mem.kept hg (fun l r hl g e => by cases e; exact hne l r hl), h.bel.trans (below_of hg h.le (fun g e => by cases e; exact hB)), Nat.le_trans h.le hg.size⟩
theorem Mm.cells (h : Mm w0 w B ρ) {l : Lb} {r : Rw} (hl : ρ l = some r) {g : Nat} (hg : r.v.ownBlock = some g) : ∃ cur e, w.heap[g]? = some (.cells cur e (0, 0)) := by
  rcases (h.mem.own _ _ hl).2 with ⟨e1, _⟩ | ⟨g', cap, cur, e1, _, e2, _⟩
  · rw [e1] at hg; cases hg
  · rw [e1] at hg; cases hg; exact ⟨cur, _, e2⟩
theorem Mm.notMap (h : Mm w0 w B ρ) {H : Type} {P : Program} {k : TypeId} {R : Value → Option (DataW H × List MemPlace)} {b n : Nat} {D : DataW H} (hm : w.ownsMap P k R b n D) {l : Lb} {r : Rw} (hl : ρ l = some r) : r.v.ownBlock ≠ some b := fun e => by
  obtain ⟨cur, t, e1⟩ := h.cells hl e
  obtain ⟨es, clock, e2, _⟩ := hm
  rw [e1] at e2; cases e2
theorem Mm.notIter (h : Mm w0 w B ρ) {H : Type} {P : Program} {k : TypeId} {R : Value → Option (DataW H × List MemPlace)} {b r0 n : Nat} {D : DataW H} {left : Lit → Bool} {cnt : Nat} (hm : w.ranges P k R b r0 n D left cnt) {l : Lb} {r : Rw} (hl : ρ l = some r) : r.v.ownBlock ≠ some r0 := fun e => by
  obtain ⟨cur, t, e1⟩ := h.cells hl e
  unfold World.ranges at hm
  obtain ⟨es, clock, rest⟩ := hm
  simp_all
end

end Go.Proofs.Ybulkebla
