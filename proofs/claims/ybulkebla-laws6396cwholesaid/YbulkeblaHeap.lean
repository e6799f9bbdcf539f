import Derived.Test.YbulkeblaSift
/-! slices.heapSortOrdered at int32 (82). -/
namespace Go.Proofs.Ybulkebla
open Go.RowKit
set_option linter.unusedVariables false

set_option maxHeartbeats 4000000 in
set_option maxRecDepth 100000 in
theorem heap (B blk off cap n a m : Nat) (d : Array Int) (w0 w : World) (hS : St B blk off n w0 w d) (hB : B ≤ blk) (hm : 1 ≤ m) (hb : a + m ≤ n) (hn : n ≤ 4096) :
    Calls Yba.prog 82 #[.slice (some ⟨blk, off, none⟩) n cap, .int .i64 a, .int .i64 ((a : Int) + (m : Int))] w fun e w' =>
      e = .returned (.tuple #[]) ∧ St B blk off n w0 w' (Sort.heapSort Sort.ltInt d a (a + m)) := by
  have S0 : Hid (St B blk off n w0 w d) := hS
  clear hS
  have hsub : (a : Int) + (m : Int) - (a : Int) = (m : Int) := by omega
  go_enter Yba.func82, Yba.ntmps82
  go_wp2_with fail
  go_loopw [9] (fun vi wr => ∃ (k : Nat) (dk : Array Int), vi = .int .i64 ((k : Int) - 1) ∧ k ≤ (m - 1) / 2 + 1 ∧ Hid (St B blk off n w0 wr dk) ∧
      Hid (Sort.heapBuild Sort.ltInt m a k dk = Sort.heapBuild Sort.ltInt m a ((m - 1) / 2 + 1) d)) (fun vi _ => (RowKit.intOf vi + 1).toNat)
  case atStart => exact ⟨(m - 1) / 2 + 1, d, by congr 1; (first | omega | (rw [Int.tdiv_eq_ediv_of_nonneg (by omega)]; omega)), Nat.le_refl _, S0, rfl⟩
  case round =>
    obtain ⟨k, dk, rfl, hk, SK, HO⟩ := hrel
    cases k with
    | zero =>
      rw [show (((0 : Nat) : Int) - 1) = -1 from rfl]
      have HB : Hid (dk = Sort.heapBuild Sort.ltInt m a ((m - 1) / 2 + 1) d) := HO.out
      go_wp2_with fail
      go_loopw [10] (fun vi wr => ∃ (k : Nat) (dj : Array Int), vi = .int .i64 ((k : Int) - 1) ∧ k ≤ m ∧ Hid (St B blk off n w0 wr dj) ∧
        Hid (Sort.heapPop Sort.ltInt a k dj = Sort.heapPop Sort.ltInt a m dk)) (fun vi _ => (RowKit.intOf vi + 1).toNat)
      case atStart => exact ⟨m, dk, by simp, Nat.le_refl _, SK, rfl⟩
      case round =>
        obtain ⟨k, dj, rfl, hk, SJ, HP⟩ := hrel
        cases k with
        | zero =>
          go_wp2_with fail
          go_end0
          refine ⟨rfl, ?_⟩
          have e : dj = Sort.heapSort Sort.ltInt d a (a + m) := by
            unfold Sort.heapSort
            rw [show a + m - a = m by omega, ← HB.out, ← HP.out]; rfl
          rw [← e]; exact SJ.out
        | succ k =>
          have hcw := SJ.out.cell
          have hfw := SJ.out.froz
          rcases Nat.eq_zero_or_pos k with hk0 | hkp
          · subst hk0
            go_wp2_with fail
            go_region
            have S1 := (SJ.out.swp (i := a) (j := a) hB (by omega) (by omega) rfl rfl).drew
            go_wp2_with fail
            refine (sift B blk off cap n 0 0 a _ w0 _ S1 hB (by omega) (by omega) hn).mono ?_
            rintro e w1 ⟨rfl, S2⟩
            have S3 : Hid (St B blk off n w0 w1 (Sort.siftDown Sort.ltInt 0 a 0 (Sort.swp dj a a))) := S2
            clear S1 S2
            go_wp2_with fail
            go_roundw
            case rel => exact ⟨0, _, by simp, by omega, S3, HP⟩
            case measure => simp [RowKit.intOf]
          · go_wp2_with fail
            go_region
            have S1 := (SJ.out.swp (i := a) (j := a + k) hB (by omega) (by omega) rfl rfl).drew
            go_wp2_with fail
            refine (sift B blk off cap n 0 k a _ w0 _ S1 hB (by omega) (by omega) hn).mono ?_
            rintro e w1 ⟨rfl, S2⟩
            have S3 : Hid (St B blk off n w0 w1 (Sort.siftDown Sort.ltInt k a 0 (Sort.swp dj a (a + k)))) := S2
            clear S1 S2
            go_wp2_with fail
            go_roundw
            case rel => exact ⟨k, _, by simp, by omega, S3, HP⟩
            case measure => simp [RowKit.intOf]
    | succ k =>
      have hc := sift B blk off cap n k m a dk w0 wr SK.out hB (by omega) (by omega) hn
      go_wp2_with (go_at_call 123; refine hc.mono ?_; rintro e w1 ⟨rfl, S2⟩)
      have S3 : Hid (St B blk off n w0 w1 (Sort.siftDown Sort.ltInt m a k dk)) := S2
      clear S2
      go_roundw
      case rel => exact ⟨k, _, by simp, by omega, S3, HO⟩
      case measure => simp [RowKit.intOf]

end Go.Proofs.Ybulkebla
