import Derived.Test.YbulkebneTotal
import Derived.BigRegion
import Derived.Deep.QuietTactic
import Derived.BigQuiet
import Derived.Lib.Walk
/-! LawS6400BWhole (function 4). -/
namespace Go.Proofs.Ybulkebne
open Go.RowKit
set_option linter.unusedVariables false

/-- Block g holds N integers, h of each place; they can be written. -/
structure Row (w : World) (g N : Nat) (h : Nat → Int) : Prop where
  c : ∀ j, j < N → w.cell? ⟨g, j, none⟩ = some (.int .i64 (h j))
  f : ∀ j, j < N → w.frozen? ⟨g, j, none⟩ = false
  sz : g < w.heap.size

theorem Row.set {w : World} {g N : Nat} {h : Nat → Int} (H : Row w g N h) (i : Nat) (hi : i < N) (v : Int) : Row (w.setCell ⟨g, i, none⟩ (.int .i64 v)) g N (fun j => if j = i then v else h j) := by
  refine ⟨fun j hj => ?_, fun j hj => by rw [World.frozen?_setCell]; exact H.f j hj, by simpa using H.sz⟩
  by_cases e : j = i
  · subst e; simp only [if_true]; exact World.cell?_setCell_same _ _ _ (H.c j hj)
  · rw [if_neg e, World.cell?_setCell_other _ _ _ _ (by intro h; cases h; exact e rfl)]; exact H.c j hj
theorem Row.drew {w : World} {g N : Nat} {h : Nat → Int} (H : Row w g N h) : Row w.drew g N h := ⟨H.c, H.f, H.sz⟩
theorem Row.congr {w : World} {g N : Nat} {h h' : Nat → Int} (H : Row w g N h) (e : ∀ j, j < N → h j = h' j) : Row w g N h' := ⟨fun j hj => by rw [← e j hj]; exact H.c j hj, H.f, H.sz⟩
theorem Row.below {w w' : World} {g N B : Nat} {h : Nat → Int} (H : Row w g N h) (hb : Below B w w') (hg : g < B) : Row w' g N h :=
  ⟨fun j hj => (hb.cell (p := ⟨g, j, none⟩) hg).trans (H.c j hj), fun j hj => (hb.frozen (p := ⟨g, j, none⟩) hg).trans (H.f j hj), by have := hb.size; have := H.sz; omega⟩
theorem Row.step {w : World} {g N k : Nat} {f : Nat → Int} (H : Row w g N (fun j => if j < k * 3 then f j else 0)) (hk : k * 3 + 2 < N) :
    Row (((w.setCell ⟨g, k * 3, none⟩ (.int .i64 (f (k * 3)))).setCell ⟨g, k * 3 + 1, none⟩ (.int .i64 (f (k * 3 + 1)))).setCell ⟨g, k * 3 + 2, none⟩ (.int .i64 (f (k * 3 + 2)))) g N (fun j => if j < (k + 1) * 3 then f j else 0) := by
  refine (((H.set (k * 3) (by omega) _).set (k * 3 + 1) (by omega) _).set (k * 3 + 2) hk _).congr fun j hj => ?_
  by_cases h2 : j = k * 3 + 2
  · rw [if_pos h2, if_pos (by omega), h2]
  · rw [if_neg h2]
    by_cases h1 : j = k * 3 + 1
    · rw [if_pos h1, if_pos (by omega), h1]
    · rw [if_neg h1]
      by_cases h0 : j = k * 3
      · rw [if_pos h0, if_pos (by omega), h0]
      · rw [if_neg h0]
        by_cases hl : j < k * 3
        · rw [if_pos hl, if_pos (by omega)]
        · rw [if_neg hl, if_neg (by omega)]

theorem Row_made (w : World) (len : Nat) : Row (w.alloc (.cells (madeCells #[.int .i64 0, .int .i64 0, .int .i64 0] (len * 3)) 84)) w.heap.size (len * 3) (fun j => if j < 0 * 3 then 0 else 0) := by
  refine ⟨fun j hj => ?_, fun j hj => by simp, by simp⟩
  have : (madeCells #[.int .i64 0, .int .i64 0, .int .i64 0] (len * 3))[j]? = some (Value.int .i64 0) := by
    simp [madeCells, hj]
    have h3 : j % 3 < 3 := Nat.mod_lt _ (by omega)
    have : j % 3 = 0 ∨ j % 3 = 1 ∨ j % 3 = 2 := by omega
    rcases this with h | h | h <;> simp [h]
  rw [World.cell?_alloc_new]
  exact this

theorem back (f : Nat → Int) (r k q : Nat) : wrap64 (wrap64 (S f r k - S f r (q + 1)) + f (q * 3 + r)) = wrap64 (S f r k - S f r q) := by
  rw [wrap64_step]
  have : S f r k - S f r (q + 1) + f (q * 3 + r) = S f r k - S f r q := by simp only [S]; omega
  rw [this]

theorem info84 : Yba.prog.info? 84 = some Yba.t84 := by kernel_rfl

set_option maxRecDepth 100000 in
set_option maxHeartbeats 800000 in
theorem lawB_row (wid hd : Int) (b off len cap : Nat) (f : Nat → Int) (w : World) (hlen : len ≤ 1048576) (hb : b < w.heap.size)
    (hc : ∀ k, k < 3 * len → w.cell? ⟨b, off + k, none⟩ = some (.int .i64 (f k))) :
    Calls Yba.prog 4 #[.int .i64 wid, .int .i64 hd, .slice (some ⟨b, off, none⟩) len cap] w fun e w' => e = .returned (.bool true) ∧ Below w.heap.size w w' := by
  have n80 : ∀ (w : World) (a : Option Addr) (n c n' c' : Nat), (binOp .neq 80 (.slice a n c) (.slice none n' c')).run Yba.prog w = .ok (.bool (!a.isNone)) w := fun w a n c n' c' => run_neq_slice_nil_any w _ _ a n c n' c' Yba.underlying80
  have n57 : ∀ (w : World) (a : Option Addr) (n c n' c' : Nat), (binOp .neq 57 (.slice a n c) (.slice none n' c')).run Yba.prog w = .ok (.bool (!a.isNone)) w := fun w a n c n' c' => run_neq_slice_nil_any w _ _ a n c n' c' Yba.underlying57
  have q80 : ∀ (w : World) (a : Option Addr) (n c n' c' : Nat), (binOp .eql 80 (.slice a n c) (.slice none n' c')).run Yba.prog w = .ok (.bool a.isNone) w := fun w a n c n' c' => Lib.run_eql_slice_nil w _ _ a n c n' c' Yba.underlying80
  have q56 : ∀ (w : World) (a : Option Addr) (n c n' c' : Nat), (binOp .eql 56 (.slice a n c) (.slice none n' c')).run Yba.prog w = .ok (.bool a.isNone) w := fun w a n c n' c' => Lib.run_eql_slice_nil w _ _ a n c n' c' Yba.underlying56
  have hmk : ∀ w : World, (Instr.makeSlice 56 (.int .i64 (len : Int)) (.int .i64 (len : Int))).run Yba.prog w = .ok (.slice (some ⟨w.heap.size, 0, none⟩) len len) (w.alloc (.cells (madeCells #[.int .i64 0, .int .i64 0, .int .i64 0] (len * 3)) 84)) := by
    intro w
    have := run_make (P := Yba.prog) w 56 84 Yba.t84 (.agg #[.int .i64 0, .int .i64 0, .int .i64 0]) Yba.underlying56 info84 rfl .i64 .i64 len len (by omega) (by omega) (by simp [Yba.t84]; omega) (by omega)
    simpa [Yba.t84, Value.cells] using this
  go_enter Yba.func4, Yba.ntmps4
  go_wp2
  go_loopw [29] (fun i wr => ∃ k : Nat, k ≤ len ∧ i = .int .i64 k ∧ Row wr w.heap.size (len * 3) (fun j => if j < k * 3 then f j else 0) ∧ Below w.heap.size w wr) (fun i _ => len - (intOf i).toNat)
  case atStart => exact ⟨0, by omega, rfl, Row_made w len, (Below.refl _ w).alloc (Nat.le_refl _) _⟩
  case round =>
    obtain ⟨k, hk, rfl, hR, hB⟩ := hrel
    by_cases hlt : k < len
    · have e0 := hc (k * 3) (by omega)
      have e1 := hc (k * 3 + 1) (by omega)
      have e2 := hc (k * 3 + 2) (by omega)
      rw [← hB.cell (p := ⟨b, _, none⟩) hb] at e0 e1 e2
      rw [← Nat.add_assoc] at e1 e2
      obtain ⟨x0, r0⟩ : ∃ x, wr.cell? ⟨w.heap.size, k * 3, none⟩ = some x := ⟨_, hR.c (k * 3) (by omega)⟩
      obtain ⟨x1, r1⟩ : ∃ x, wr.cell? ⟨w.heap.size, k * 3 + 1, none⟩ = some x := ⟨_, hR.c (k * 3 + 1) (by omega)⟩
      obtain ⟨x2, r2⟩ : ∃ x, wr.cell? ⟨w.heap.size, k * 3 + 2, none⟩ = some x := ⟨_, hR.c (k * 3 + 2) (by omega)⟩
      have s0 := hR.f (k * 3) (by omega)
      have s1 := hR.f (k * 3 + 1) (by omega)
      have s2 := hR.f (k * 3 + 2) (by omega)
      have rz := hR.sz
      have hki : (k : Int) < (len : Int) := by omega
      clear hc
      go_wp2
      go_region
      go_wp2
      go_roundw
      case rel => exact ⟨k + 1, by omega, by go_num, (hR.step (by omega)).drew, (((hB.setCell (p := ⟨w.heap.size, k * 3, none⟩) (Nat.le_refl _) _).setCell (p := ⟨w.heap.size, k * 3 + 1, none⟩) (Nat.le_refl _) _).setCell (p := ⟨w.heap.size, k * 3 + 2, none⟩) (Nat.le_refl _) _).drew⟩
      case measure => simp [intOf]; omega
    · obtain rfl : k = len := by omega
      have hR' : Row wr w.heap.size (k * 3) f := hR.congr fun j hj => if_pos hj
      have rz := hR.sz
      clear hR
      go_wp2_with fail
      refine (total_row wr.heap.size w.heap.size 0 k k f (wr.alloc (.cells #[.int .i64 wid, .int .i64 hd, .slice (some ⟨w.heap.size, 0, none⟩) k k, .slice none 0 0] 59)) hlen (by simp) (by simp; omega) (by simp) ?hcc).mono ?_
      case hcc =>
        intro j hj
        rw [Nat.zero_add]
        exact ((hR'.below ((Below.refl wr.heap.size wr).alloc (Nat.le_refl _) _) rz).c j (by omega))
      rintro e w2 ⟨rfl, hb2⟩
      have hbW : Below w.heap.size w w2 := (hB.alloc (by omega) _).trans (hb2.mono (by simp; omega))
      have hz2 : wr.heap.size < w2.heap.size := by have := hb2.size; simp at this; omega
      have hbz : b < w2.heap.size := by omega
      have hcW : ∀ j, j < 3 * k → w2.cell? ⟨b, off + j, none⟩ = some (.int .i64 (f j)) := fun j hj => (hbW.cell (p := ⟨b, off + j, none⟩) hb).trans (hc j hj)
      have hw0 : w2.cell? ⟨wr.heap.size, 0, none⟩ = some (.int .i64 wid) := (hb2.cell (p := ⟨wr.heap.size, 0, none⟩) (by simp)).trans (by simp)
      have hw1 : w2.cell? ⟨wr.heap.size, 1, none⟩ = some (.int .i64 hd) := (hb2.cell (p := ⟨wr.heap.size, 1, none⟩) (by simp)).trans (by simp)
      have hw2 : w2.cell? ⟨wr.heap.size, 2, none⟩ = some (.slice (some ⟨w.heap.size, 0, none⟩) k k) := (hb2.cell (p := ⟨wr.heap.size, 2, none⟩) (by simp)).trans (by simp)
      have hw3 : w2.cell? ⟨wr.heap.size, 3, none⟩ = some (.slice none 0 0) := (hb2.cell (p := ⟨wr.heap.size, 3, none⟩) (by simp)).trans (by simp)
      have hR2 : Row w2 w.heap.size (k * 3) f := (hR'.below ((Below.refl wr.heap.size wr).alloc (Nat.le_refl _) _) rz).below hb2 (by simp; omega)
      have hv2 : Hid (∀ wx : World, Below w2.heap.size w2 wx → wx.cell? ⟨wr.heap.size, 2, none⟩ = some (.slice (some ⟨w.heap.size, 0, none⟩) k k)) := fun wx h => (h.cell (p := ⟨wr.heap.size, 2, none⟩) hz2).trans hw2
      have z0 : S f 0 0 = 0 := rfl
      have z1 : S f 1 0 = 0 := rfl
      have z2 : S f 2 0 = 0 := rfl
      clear hc hR' hB hb2
      go_wp2_with fail
      go_loop [11, 14] (fun c i => ∃ m : Nat, m ≤ k ∧ i = .int .i64 ((m : Int) - 1) ∧ c = .int .i64 (wrap64 (S f 0 k - S f 0 m))) (fun _ i => (intOf i + 1).toNat)
      case atStart => exact ⟨k, Nat.le_refl _, rfl, by simp [wrap64]⟩
      case round =>
        obtain ⟨m, hm, rfl, rfl⟩ := hrel
        cases m with
        | succ q =>
          have e0 := hcW (q * 3) (by omega)
          have hqi0 : q < k := by omega
          have hqi : (q : Int) < (k : Int) := by omega
          rw [show ((q + 1 : Nat) : Int) - 1 = (q : Int) from by omega]
          have HS : Hid (wrap64 (wrap64 (S f 0 k - S f 0 (q + 1)) + f (q * 3)) = wrap64 (S f 0 k - S f 0 q)) := back f 0 k q
          go_wp2
          go_round
          case rel => exact ⟨q, by omega, rfl, by rw [HS.out]⟩
          case measure => simp [intOf]
        | zero =>
          go_wp2
          go_loop [12, 15] (fun c i => ∃ m : Nat, m ≤ k ∧ i = .int .i64 ((m : Int) - 1) ∧ c = .int .i64 (wrap64 (S f 1 k - S f 1 m))) (fun _ i => (intOf i + 1).toNat)
          case atStart => exact ⟨k, Nat.le_refl _, rfl, by simp [wrap64]⟩
          case round =>
            obtain ⟨m, hm, rfl, rfl⟩ := hrel
            cases m with
            | succ q =>
              have e0 := hcW (q * 3 + 1) (by omega)
              rw [← Nat.add_assoc] at e0
              have hqi : (q : Int) < (k : Int) := by omega
              rw [show ((q + 1 : Nat) : Int) - 1 = (q : Int) from by omega]
              have HS : Hid (wrap64 (wrap64 (S f 1 k - S f 1 (q + 1)) + f (q * 3 + 1)) = wrap64 (S f 1 k - S f 1 q)) := back f 1 k q
              go_wp2
              go_round
              case rel => exact ⟨q, by omega, rfl, by rw [HS.out]⟩
              case measure => simp [intOf]
            | zero =>
              go_wp2
              go_loop [13, 16] (fun c i => ∃ m : Nat, m ≤ k ∧ i = .int .i64 ((m : Int) - 1) ∧ c = .int .i64 (wrap64 (S f 2 k - S f 2 m))) (fun _ i => (intOf i + 1).toNat)
              case atStart => exact ⟨k, Nat.le_refl _, rfl, by simp [wrap64]⟩
              case round =>
                obtain ⟨m, hm, rfl, rfl⟩ := hrel
                cases m with
                | succ q =>
                  have e0 := hcW (q * 3 + 2) (by omega)
                  rw [← Nat.add_assoc] at e0
                  have hqi : (q : Int) < (k : Int) := by omega
                  rw [show ((q + 1 : Nat) : Int) - 1 = (q : Int) from by omega]
                  have HS : Hid (wrap64 (wrap64 (S f 2 k - S f 2 (q + 1)) + f (q * 3 + 2)) = wrap64 (S f 2 k - S f 2 q)) := back f 2 k q
                  go_wp2
                  go_round
                  case rel => exact ⟨q, by omega, rfl, by rw [HS.out]⟩
                  case measure => simp [intOf]
                | zero =>
                  go_wp2_with fail
                  go_loopw [146] (fun i wr3 => ∃ m : Nat, m ≤ k ∧ i = .int .i64 m ∧ Below w2.heap.size w2 wr3) (fun i _ => k - (intOf i).toNat)
                  case atStart => exact ⟨0, Nat.zero_le _, rfl, (Below.refl _ _).alloc (Nat.le_refl _) _⟩
                  case round =>
                    obtain ⟨m, hm2, rfl, hb3⟩ := hrel
                    have hz3 := hb3.size
                    by_cases hlt : m < k
                    · have e0 := (hb3.cell (p := ⟨b, off + (m * 3), none⟩) hbz).trans (hcW (m * 3) (by omega))
                      have e1 := (hb3.cell (p := ⟨b, off + (m * 3 + 1), none⟩) hbz).trans (hcW (m * 3 + 1) (by omega))
                      have e2 := (hb3.cell (p := ⟨b, off + (m * 3 + 2), none⟩) hbz).trans (hcW (m * 3 + 2) (by omega))
                      rw [← Nat.add_assoc] at e1 e2
                      have rsz := hR2.sz
                      have r0 := (hb3.cell (p := ⟨w.heap.size, m * 3, none⟩) rsz).trans (hR2.c (m * 3) (by omega))
                      have r1 := (hb3.cell (p := ⟨w.heap.size, m * 3 + 1, none⟩) rsz).trans (hR2.c (m * 3 + 1) (by omega))
                      have r2 := (hb3.cell (p := ⟨w.heap.size, m * 3 + 2, none⟩) rsz).trans (hR2.c (m * 3 + 2) (by omega))
                      have v2 := hv2.out wr hb3
                      have hbz3 : b < wr.heap.size := by omega
                      have hmi : (m : Int) < (k : Int) := by omega
                      clear hcW hR2
                      go_wp2_with fail
                      go_quiet (fail)
                      go_wp2_with fail
                      go_roundw
                      case rel => exact ⟨m + 1, by omega, by go_num, below_drewN (hb3.alloc (by omega) _) _⟩
                      case measure => simp [intOf]; omega
                    · go_wp2_with fail
                      go_ret
                      exact ⟨rfl, hbW.trans (hb3.mono (by omega))⟩



end Go.Proofs.Ybulkebne
