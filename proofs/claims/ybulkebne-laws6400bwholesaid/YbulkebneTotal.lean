import Derived.Test.YbulkebneRows
import Derived.WalkKit
import Derived.WalkSpells
import Derived.WalkLawsBesides
/-! (*window).total (function 12). -/
namespace Go.Proofs.Ybulkebne
open Go.RowKit
set_option linter.unusedVariables false

/-- A box of three integers, which can be written. -/
structure Box3 (w : World) (g : Nat) (x y z : Int) : Prop where
  c0 : w.cell? ⟨g, 0, none⟩ = some (.int .i64 x)
  c1 : w.cell? ⟨g, 1, none⟩ = some (.int .i64 y)
  c2 : w.cell? ⟨g, 2, none⟩ = some (.int .i64 z)
  f0 : w.frozen? ⟨g, 0, none⟩ = false
  f1 : w.frozen? ⟨g, 1, none⟩ = false
  f2 : w.frozen? ⟨g, 2, none⟩ = false
  sz : g < w.heap.size

theorem Box3.alloc {w : World} {g : Nat} {x y z : Int} (h : Box3 w g x y z) (o : Obj) : Box3 (w.alloc o) g x y z := by
  have hb := (Below.refl w.heap.size w).alloc (Nat.le_refl _) o
  have hs := h.sz
  exact ⟨(hb.cell (p := ⟨g, 0, none⟩) hs).trans h.c0, (hb.cell (p := ⟨g, 1, none⟩) hs).trans h.c1, (hb.cell (p := ⟨g, 2, none⟩) hs).trans h.c2,
    (hb.frozen (p := ⟨g, 0, none⟩) hs).trans h.f0, (hb.frozen (p := ⟨g, 1, none⟩) hs).trans h.f1, (hb.frozen (p := ⟨g, 2, none⟩) hs).trans h.f2, by simp; omega⟩
theorem Box3.other {w : World} {g : Nat} {x y z : Int} (h : Box3 w g x y z) {a : Addr} (ha : a.block ≠ g) (u : Value) : Box3 (w.setCell a u) g x y z := by
  have hn : ∀ j, a ≠ ⟨g, j, none⟩ := fun j e => ha (by rw [e])
  exact ⟨(World.cell?_setCell_other _ _ _ _ (hn 0)).trans h.c0, (World.cell?_setCell_other _ _ _ _ (hn 1)).trans h.c1, (World.cell?_setCell_other _ _ _ _ (hn 2)).trans h.c2,
    by rw [World.frozen?_setCell]; exact h.f0, by rw [World.frozen?_setCell]; exact h.f1, by rw [World.frozen?_setCell]; exact h.f2, by simpa using h.sz⟩
theorem Box3.set0 {w : World} {g : Nat} {x y z : Int} (h : Box3 w g x y z) (u : Int) : Box3 (w.setCell ⟨g, 0, none⟩ (.int .i64 u)) g u y z :=
  ⟨World.cell?_setCell_same _ _ _ h.c0, (World.cell?_setCell_other _ _ _ _ (by simp)).trans h.c1, (World.cell?_setCell_other _ _ _ _ (by simp)).trans h.c2,
    by rw [World.frozen?_setCell]; exact h.f0, by rw [World.frozen?_setCell]; exact h.f1, by rw [World.frozen?_setCell]; exact h.f2, by simpa using h.sz⟩
theorem Box3.set1 {w : World} {g : Nat} {x y z : Int} (h : Box3 w g x y z) (u : Int) : Box3 (w.setCell ⟨g, 1, none⟩ (.int .i64 u)) g x u z :=
  ⟨(World.cell?_setCell_other _ _ _ _ (by simp)).trans h.c0, World.cell?_setCell_same _ _ _ h.c1, (World.cell?_setCell_other _ _ _ _ (by simp)).trans h.c2,
    by rw [World.frozen?_setCell]; exact h.f0, by rw [World.frozen?_setCell]; exact h.f1, by rw [World.frozen?_setCell]; exact h.f2, by simpa using h.sz⟩
theorem Box3.set2 {w : World} {g : Nat} {x y z : Int} (h : Box3 w g x y z) (u : Int) : Box3 (w.setCell ⟨g, 2, none⟩ (.int .i64 u)) g x y u :=
  ⟨(World.cell?_setCell_other _ _ _ _ (by simp)).trans h.c0, (World.cell?_setCell_other _ _ _ _ (by simp)).trans h.c1, World.cell?_setCell_same _ _ _ h.c2,
    by rw [World.frozen?_setCell]; exact h.f0, by rw [World.frozen?_setCell]; exact h.f1, by rw [World.frozen?_setCell]; exact h.f2, by simpa using h.sz⟩

/-- The exact sum of one field over the first k elements. -/
def S (f : Nat → Int) (r : Nat) : Nat → Int
  | 0 => 0
  | k + 1 => S f r k + f (k * 3 + r)

theorem wrap64_step (a b : Int) : wrap64 (wrap64 a + b) = wrap64 (a + b) := by unfold wrap64; omega

set_option maxRecDepth 100000 in
set_option maxHeartbeats 800000 in
theorem total_row (wb : Nat) (b off len cap : Nat) (f : Nat → Int) (w : World) (hlen : len ≤ 1048576) (hwb : wb < w.heap.size) (hb : b < w.heap.size)
    (h2 : w.cell? ⟨wb, 2, none⟩ = some (.slice (some ⟨b, off, none⟩) len cap))
    (hc : ∀ k, k < 3 * len → w.cell? ⟨b, off + k, none⟩ = some (.int .i64 (f k))) :
    Calls Yba.prog 12 #[.pointer (some ⟨wb, 0, none⟩)] w fun e w' => e = .returned (.agg #[.int .i64 (wrap64 (S f 0 len)), .int .i64 (wrap64 (S f 1 len)), .int .i64 (wrap64 (S f 2 len))]) ∧ Below w.heap.size w w' := by
  go_enter Yba.func12, Yba.ntmps12
  go_wp2
  go_loopw [11] (fun i wr => ∃ k : Nat, k ≤ len ∧ i = .int .i64 k ∧ Box3 wr (w.heap.size + 1) (wrap64 (S f 0 k)) (wrap64 (S f 1 k)) (wrap64 (S f 2 k)) ∧ Box3 wr w.heap.size 0 0 0 ∧ Below w.heap.size w wr) (fun i _ => len - (intOf i).toNat)
  case atStart => exact ⟨0, by omega, rfl, ⟨by simp [S, wrap64], by simp [S, wrap64], by simp [S, wrap64], by simp, by simp, by simp, by simp⟩, ⟨by simp, by simp, by simp, by simp, by simp, by simp, by simp; omega⟩, ((Below.refl _ w).alloc (Nat.le_refl _) _).alloc (by simp) _⟩
  case round =>
    obtain ⟨k, hk, rfl, hT, hR, hB⟩ := hrel
    have t0 := hT.c0
    have t1 := hT.c1
    have t2 := hT.c2
    have tf0 := hT.f0
    have tf1 := hT.f1
    have tf2 := hT.f2
    have tsz := hT.sz
    have r0 := hR.c0
    have r1 := hR.c1
    have r2 := hR.c2
    have rf0 := hR.f0
    have rf1 := hR.f1
    have rf2 := hR.f2
    have rsz := hR.sz
    by_cases hlt : k < len
    · have e0 := hc (k * 3) (by omega)
      have e1 := hc (k * 3 + 1) (by omega)
      have e2 := hc (k * 3 + 2) (by omega)
      rw [← hB.cell (p := ⟨b, _, none⟩) hb] at e0 e1 e2
      rw [← Nat.add_assoc] at e1 e2
      clear hc
      go_wp2
      go_roundw
      case rel =>
        refine ⟨k + 1, by omega, by go_num, ?_, ?_, ?_⟩
        · have h := (((hT.set0 (wrap64 (wrap64 (S f 0 k) + f (k * 3)))).set1 (wrap64 (wrap64 (S f 1 k) + f (k * 3 + 1)))).set2 (wrap64 (wrap64 (S f 2 k) + f (k * 3 + 2)))).alloc (.cells #[.int .i64 (f (k * 3)), .int .i64 (f (k * 3 + 1)), .int .i64 (f (k * 3 + 2))] 84)
          simp only [wrap64_step] at h ⊢
          exact h
        · exact (((hR.other (a := ⟨w.heap.size + 1, 0, none⟩) (by simp) _).other (a := ⟨w.heap.size + 1, 1, none⟩) (by simp) _).other (a := ⟨w.heap.size + 1, 2, none⟩) (by simp) _).alloc _
        · exact (((hB.setCell (p := ⟨w.heap.size + 1, 0, none⟩) (by simp) _).setCell (p := ⟨w.heap.size + 1, 1, none⟩) (by simp) _).setCell (p := ⟨w.heap.size + 1, 2, none⟩) (by simp) _).alloc (by simp; omega) _
      case measure => simp [intOf]; omega
    · go_wp2
      obtain rfl : k = len := by omega
      have hfin := ((hR.set0 (wrap64 (S f 0 k))).set1 (wrap64 (S f 1 k))).set2 (wrap64 (S f 2 k))
      have q0 := hfin.c0
      have q1 := hfin.c1
      have q2 := hfin.c2
      exact bodyPost_ret (v := .agg #[.int .i64 (wrap64 (S f 0 k)), .int .i64 (wrap64 (S f 1 k)), .int .i64 (wrap64 (S f 2 k))]) (by simp [results, Yba.results12, go_sem, q0, q1, q2]) rfl ⟨rfl, ((hB.setCell (p := ⟨w.heap.size, 0, none⟩) (by simp) _).setCell (p := ⟨w.heap.size, 1, none⟩) (by simp) _).setCell (p := ⟨w.heap.size, 2, none⟩) (by simp) _⟩

set_option maxRecDepth 100000 in
set_option maxHeartbeats 800000 in
theorem total_empty (wb : Nat) (a : Option Addr) (cap : Nat) (w : World) (hwb : wb < w.heap.size)
    (h2 : w.cell? ⟨wb, 2, none⟩ = some (.slice a (0 : Nat) cap)) :
    Calls Yba.prog 12 #[.pointer (some ⟨wb, 0, none⟩)] w fun e w' => e = .returned (.agg #[.int .i64 0, .int .i64 0, .int .i64 0]) ∧ Below w.heap.size w w' := by
  go_enter Yba.func12, Yba.ntmps12
  go_wp2
  refine wp_loop_rounds 1 ?_
  rw [rounds_succ]
  go_wp2
  exact bodyPost_ret (v := .agg #[.int .i64 0, .int .i64 0, .int .i64 0]) (by simp [results, Yba.results12, go_sem]) rfl ⟨rfl, ((Below.refl _ w).alloc (Nat.le_refl _) _).alloc (by simp) _⟩
end Go.Proofs.Ybulkebne
