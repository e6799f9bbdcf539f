import Derived.Test.YbulkeblaPiv
/-! slices.choosePivotOrdered at int32 (84). -/
namespace Go.Proofs.Ybulkebla
open Go.RowKit
set_option linter.unusedVariables false

theorem medianAdjV (blk off cap n Q x s : Nat) (v : Int) (hv : v = (x : Int) + 1) (d : Array Int) (w0 w : World) (hS : Bx blk off n Q w0 w d s) (hx : x + 2 < n) (hn : n ≤ 4096) (hs : s ≤ 90) :
    Calls Yba.prog 124 #[.slice (some ⟨blk, off, none⟩) n cap, .int .i64 v, .pointer (some ⟨Q, 0, none⟩)] w fun e w' =>
      ∃ (m s' : Nat), e = .returned (.int .i64 m) ∧ (x ≤ m ∧ m ≤ x + 2) ∧ s' ≤ s + 3 ∧ Bx blk off n Q w0 w' d s' := by
  subst hv; exact medianAdj blk off cap n Q x s d w0 w hS hx hn hs
theorem medianV (blk off cap n Q x y z s : Nat) (vx vy vz : Int) (h1 : vx = x) (h2 : vy = y) (h3 : vz = z) (d : Array Int) (w0 w : World) (hS : Bx blk off n Q w0 w d s) (hx : x < n) (hy : y < n) (hz : z < n) (hn : n ≤ 4096) (hs : s ≤ 90) :
    Calls Yba.prog 125 #[.slice (some ⟨blk, off, none⟩) n cap, .int .i64 vx, .int .i64 vy, .int .i64 vz, .pointer (some ⟨Q, 0, none⟩)] w fun e w' =>
      ∃ (m s' : Nat), e = .returned (.int .i64 m) ∧ (m = x ∨ m = y ∨ m = z) ∧ s' ≤ s + 3 ∧ Bx blk off n Q w0 w' d s' := by
  subst h1; subst h2; subst h3; exact median blk off cap n Q x y z s d w0 w hS hx hy hz hn hs

theorem bx_new {B blk off n : Nat} {w0 w : World} {d : Array Int} (h : St B blk off n w0 w d) (hlt : blk < w.heap.size) : Bx blk off n w.heap.size w (w.alloc (.cells #[.int .i64 0] 3)) d 0 := by
  have hb : Below w.heap.size w (w.alloc (.cells #[.int .i64 0] 3)) := (Below.refl _ w).alloc (Nat.le_refl _) _
  have h0 : St w.heap.size blk off n w w d := ⟨h.holds, h.size, Below.refl _ _⟩
  exact ⟨h0.step hb hlt (Nat.le_refl _), hlt, by simp, by simp⟩

set_option maxHeartbeats 4000000 in
set_option maxRecDepth 100000 in
theorem choosePivot (B blk off cap n a m : Nat) (d : Array Int) (w0 w : World) (hS : St B blk off n w0 w d) (hlt : blk < w.heap.size) (hm : 12 < m) (hb : a + m ≤ n) (hn : n ≤ 4096) :
    Calls Yba.prog 84 #[.slice (some ⟨blk, off, none⟩) n cap, .int .i64 a, .int .i64 ((a : Int) + (m : Int))] w fun e w' =>
      ∃ (p : Nat) (h : Int), e = .returned (.tuple #[.int .i64 p, .int .i64 h]) ∧ a ≤ p ∧ p < a + m ∧ (h = 0 ∨ h = 1 ∨ h = 2) ∧ Below w.heap.size w w' := by
  have S0 : Hid (Bx blk off n w.heap.size w (w.alloc (.cells #[.int .i64 0] 3)) d 0) := bx_new hS hlt
  clear hS hlt
  obtain ⟨Q, HQ⟩ : ∃ Q, Hid (w.heap.size = Q) := ⟨_, rfl⟩
  rw [HQ.out] at S0
  rw [HQ.out]
  have hQ : w.heap.size = Q := HQ.out
  have hsub : (a : Int) + (m : Int) - (a : Int) = (m : Int) := by omega
  obtain ⟨q, hq⟩ : ∃ q, q = m / 4 := ⟨_, rfl⟩
  have hq4 : (m : Int) / 4 = (q : Int) := by omega
  have q1 : 3 ≤ q := by omega
  have q2 : 4 * q ≤ m := by omega
  clear hq
  have END : Hid (∀ (p s : Nat) (wz : World), Bx blk off n Q w wz d s → a ≤ p → p < a + m → ∀ h : Int, (h = 0 ∨ h = 1 ∨ h = 2) →
     ∃ (p' : Nat) (h' : Int), Ending.returned (.tuple #[.int .i64 p, .int .i64 h]) = Ending.returned (.tuple #[.int .i64 p', .int .i64 h']) ∧ a ≤ p' ∧ p' < a + m ∧ (h' = 0 ∨ h' = 1 ∨ h' = 2) ∧ Below Q w wz) :=
    fun p s wz b h1 h2 h h3 => ⟨p, h, rfl, h1, h2, h3, b.st.bel⟩
  by_cases h50 : 50 ≤ m
  · go_enter Yba.func84, Yba.ntmps84
    go_wp2_with fail
    refine (medianAdjV blk off cap n Q (a + q - 1) 0 _ (by omega) d w _ S0.out (by omega) hn (by omega)).mono ?_
    rintro e w1 ⟨i1, s1, rfl, hi1, hs1, S1⟩
    have S1 : Hid _ := S1
    clear S0
    go_wp2_with fail
    refine (medianAdjV blk off cap n Q (a + q * 2 - 1) s1 _ (by omega) d w _ S1.out (by omega) hn (by omega)).mono ?_
    rintro e w2 ⟨j1, s2, rfl, hj1, hs2, S2⟩
    have S2 : Hid _ := S2
    clear S1
    go_wp2_with fail
    refine (medianAdjV blk off cap n Q (a + q * 3 - 1) s2 _ (by omega) d w _ S2.out (by omega) hn (by omega)).mono ?_
    rintro e w3 ⟨k1, s3, rfl, hk1, hs3, S3⟩
    have S3 : Hid _ := S3
    clear S2
    go_wp2_with fail
    refine (medianV blk off cap n Q i1 j1 k1 s3 _ _ _ rfl rfl rfl d w _ S3.out (by omega) (by omega) (by omega) hn (by omega)).mono ?_
    rintro e w4 ⟨p, s, rfl, hp, hs4, S4⟩
    have S4 : Hid _ := S4
    clear S3
    have hc4 := S4.out.cell
    have hp1 : a ≤ p := by omega
    have hp2 : p < a + m := by omega
    by_cases hs0 : s = 0
    · go_wp2_with fail
      go_ret2
      exact END.out p s _ S4.out hp1 hp2 1 (by omega)
    by_cases hs12 : s = 12
    · go_wp2_with fail
      go_ret2
      exact END.out p s _ S4.out hp1 hp2 2 (by omega)
    · go_wp2_with fail
      go_ret2
      exact END.out p s _ S4.out hp1 hp2 0 (by omega)
  · go_enter Yba.func84, Yba.ntmps84
    go_wp2_with fail
    refine (medianV blk off cap n Q (a + q) (a + q * 2) (a + q * 3) 0 _ _ _ (by omega) (by omega) (by omega) d w _ S0.out (by omega) (by omega) (by omega) hn (by omega)).mono ?_
    rintro e w4 ⟨p, s, rfl, hp, hs4, S4⟩
    have S4 : Hid _ := S4
    clear S0
    have hc4 := S4.out.cell
    have hp1 : a ≤ p := by omega
    have hp2 : p < a + m := by omega
    by_cases hs0 : s = 0
    · go_wp2_with fail
      go_ret2
      exact END.out p s _ S4.out hp1 hp2 1 (by omega)
    by_cases hs12 : s = 12
    · go_wp2_with fail
      go_ret2
      exact END.out p s _ S4.out hp1 hp2 2 (by omega)
    · go_wp2_with fail
      go_ret2
      exact END.out p s _ S4.out hp1 hp2 0 (by omega)

end Go.Proofs.Ybulkebla
