import Derived.Test.YbulkeblaKit
/-! slices.order2Ordered (137), medianOrdered (125), medianAdjacentOrdered (124) at int32. -/
namespace Go.Proofs.Ybulkebla
open Go.RowKit
set_option linter.unusedVariables false

/-- The row, and the counter's box at block Q, above the row. -/
structure Bx (blk off n Q : Nat) (w0 w : World) (d : Array Int) (s : Nat) : Prop where
  st : St Q blk off n w0 w d
  lt : blk < Q
  cell : w.cell? ⟨Q, 0, none⟩ = some (.int .i64 (s : Int))
  froz : w.frozen? ⟨Q, 0, none⟩ = false

theorem Bx.drewN {blk off n Q : Nat} {w0 w : World} {d : Array Int} {s : Nat} (h : Bx blk off n Q w0 w d s) (q : Nat) : Bx blk off n Q w0 (w.drewN q) d s := ⟨h.st.drewN q, h.lt, h.cell, h.froz⟩
theorem Bx.inc {blk off n Q : Nat} {w0 w : World} {d : Array Int} {s : Nat} (h : Bx blk off n Q w0 w d s) : Bx blk off n Q w0 (w.setCell ⟨Q, 0, none⟩ (.int .i64 ((s : Int) + 1))) d (s + 1) := by
  have hb : Below Q w (w.setCell ⟨Q, 0, none⟩ (.int .i64 ((s : Int) + 1))) := (Below.refl Q w).setCell (Nat.le_refl _) _
  refine ⟨h.st.step hb h.lt (Nat.le_refl _), h.lt, ?_, ?_⟩
  · have := World.cell?_setCell_same' w ⟨Q, 0, none⟩ (.int .i64 ((s : Int) + 1)) (by rw [h.cell]; rfl)
    simpa using this
  · have := h.froz
    simpa [World.frozen?_setCell] using this

set_option maxHeartbeats 2000000 in
set_option maxRecDepth 100000 in
theorem order2 (blk off cap n Q x y s : Nat) (d : Array Int) (w0 w : World) (hS : Bx blk off n Q w0 w d s) (hx : x < n) (hy : y < n) (hn : n ≤ 4096) (hs : s ≤ 100) :
    Calls Yba.prog 137 #[.slice (some ⟨blk, off, none⟩) n cap, .int .i64 x, .int .i64 y, .pointer (some ⟨Q, 0, none⟩)] w fun e w' =>
      ∃ (x' y' s' : Nat), e = .returned (.tuple #[.int .i64 x', .int .i64 y']) ∧ (x' = x ∧ y' = y ∨ x' = y ∧ y' = x) ∧ s' ≤ s + 1 ∧ Bx blk off n Q w0 w' d s' := by
  have S0 : Hid (Bx blk off n Q w0 w d s) := hS
  have hcw := hS.st.cell
  have hfw := hS.st.froz
  have hcq := hS.cell
  have hfq := hS.froz
  clear hS
  go_enter Yba.func137, Yba.ntmps137
  go_wp2_with fail
  go_quiet ((go_at_call 87; refine Calls.quiet_of_same (less _ _ _)))
  go_wp2_with fail
  · go_ret2
    exact ⟨y, x, s + 1, rfl, Or.inr ⟨rfl, rfl⟩, Nat.le_refl _, (S0.out.drewN nq).inc⟩
  · go_ret2
    exact ⟨x, y, s, rfl, Or.inl ⟨rfl, rfl⟩, by omega, S0.out.drewN nq⟩

set_option maxHeartbeats 2000000 in
set_option maxRecDepth 100000 in
theorem median (blk off cap n Q x y z s : Nat) (d : Array Int) (w0 w : World) (hS : Bx blk off n Q w0 w d s) (hx : x < n) (hy : y < n) (hz : z < n) (hn : n ≤ 4096) (hs : s ≤ 90) :
    Calls Yba.prog 125 #[.slice (some ⟨blk, off, none⟩) n cap, .int .i64 x, .int .i64 y, .int .i64 z, .pointer (some ⟨Q, 0, none⟩)] w fun e w' =>
      ∃ (m s' : Nat), e = .returned (.int .i64 m) ∧ (m = x ∨ m = y ∨ m = z) ∧ s' ≤ s + 3 ∧ Bx blk off n Q w0 w' d s' := by
  have S0 : Hid (Bx blk off n Q w0 w d s) := hS
  clear hS
  go_enter Yba.func125, Yba.ntmps125
  go_wp2_with fail
  refine (order2 blk off cap n Q x y s d w0 _ S0.out hx hy hn (by omega)).mono ?_
  rintro e w1 ⟨x1, y1, s1, rfl, h1, hs1, S1⟩
  have S1 : Hid _ := S1
  have h1 : Hid _ := h1
  clear S0
  go_wp2_with fail
  refine (order2 blk off cap n Q y1 z s1 d w0 _ S1.out (by rcases h1.out with ⟨rfl, rfl⟩ | ⟨rfl, rfl⟩ <;> omega) hz hn (by omega)).mono ?_
  rintro e w2 ⟨y2, z2, s2, rfl, h2, hs2, S2⟩
  have S2 : Hid _ := S2
  have h2 : Hid _ := h2
  clear S1
  go_wp2_with fail
  refine (order2 blk off cap n Q x1 y2 s2 d w0 _ S2.out (by rcases h1.out with ⟨rfl, rfl⟩ | ⟨rfl, rfl⟩ <;> omega) (by rcases h1.out with ⟨rfl, rfl⟩ | ⟨rfl, rfl⟩ <;> rcases h2.out with ⟨rfl, rfl⟩ | ⟨rfl, rfl⟩ <;> omega) hn (by omega)).mono ?_
  rintro e w3 ⟨x3, y3, s3, rfl, h3, hs3, S3⟩
  have S3 : Hid _ := S3
  have h3 : Hid _ := h3
  clear S2
  go_wp2_with fail
  go_ret
  refine ⟨y3, s3, rfl, ?_, by omega, S3.out⟩
  rcases h1.out with ⟨rfl, rfl⟩ | ⟨rfl, rfl⟩ <;> rcases h2.out with ⟨rfl, rfl⟩ | ⟨rfl, rfl⟩ <;> rcases h3.out with ⟨rfl, rfl⟩ | ⟨rfl, rfl⟩ <;> simp

set_option maxHeartbeats 2000000 in
set_option maxRecDepth 100000 in
theorem medianAdj (blk off cap n Q x s : Nat) (d : Array Int) (w0 w : World) (hS : Bx blk off n Q w0 w d s) (hx : x + 2 < n) (hn : n ≤ 4096) (hs : s ≤ 90) :
    Calls Yba.prog 124 #[.slice (some ⟨blk, off, none⟩) n cap, .int .i64 ((x : Int) + 1), .pointer (some ⟨Q, 0, none⟩)] w fun e w' =>
      ∃ (m s' : Nat), e = .returned (.int .i64 m) ∧ (x ≤ m ∧ m ≤ x + 2) ∧ s' ≤ s + 3 ∧ Bx blk off n Q w0 w' d s' := by
  have S0 : Hid (Bx blk off n Q w0 w d s) := hS
  clear hS
  go_enter Yba.func124, Yba.ntmps124
  have hc := median blk off cap n Q x (x + 1) (x + 2) s d w0 w S0.out (by omega) (by omega) (by omega) hn hs
  rw [show ((x + 1 : Nat) : Int) = (x : Int) + 1 by omega, show ((x + 2 : Nat) : Int) = (x : Int) + 1 + 1 by omega] at hc
  go_wp2_with fail
  refine hc.mono ?_
  rintro e w1 ⟨m, s1, rfl, h1, hs1, S1⟩
  have S1 : Hid _ := S1
  go_wp2_with fail
  go_ret
  exact ⟨m, s1, rfl, by omega, by omega, S1.out⟩

end Go.Proofs.Ybulkebla
