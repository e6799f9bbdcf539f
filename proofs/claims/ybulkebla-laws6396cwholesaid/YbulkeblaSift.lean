import Derived.Test.YbulkeblaKit
import Derived.BigRegion
/-! slices.siftDownOrdered at int32 (123). -/
namespace Go.Proofs.Ybulkebla
open Go.RowKit
set_option linter.unusedVariables false

theorem sift_end {hi F root : Nat} {d : Array Int} (h : hi ≤ 2 * root + 1) : Sort.siftDown Sort.ltInt hi F root d = d := by
  rw [Sort.siftDown]; simp [h]
theorem sift_R {hi F root : Nat} {d : Array Int} (h1 : 2 * root + 2 < hi) (h2 : Sort.ltInt d[F + 2 * root + 1]! d[F + 2 * root + 2]! = true) :
    Sort.siftDown Sort.ltInt hi F root d = if Sort.ltInt d[F + root]! d[F + (2 * root + 2)]! = false then d else Sort.siftDown Sort.ltInt hi F (2 * root + 2) (Sort.swp d (F + root) (F + (2 * root + 2))) := by
  rw [Sort.siftDown, dif_neg (by omega), if_pos (by rw [show F + (2 * root + 1) = F + 2 * root + 1 by omega, h2]; simp; omega)]
  cases hq : Sort.ltInt d[F + root]! d[F + (2 * root + 2)]! <;> simp [h1]
theorem sift_L {hi F root : Nat} {d : Array Int} (h0 : 2 * root + 1 < hi) (h2 : 2 * root + 2 < hi → Sort.ltInt d[F + 2 * root + 1]! d[F + 2 * root + 2]! = false) :
    Sort.siftDown Sort.ltInt hi F root d = if Sort.ltInt d[F + root]! d[F + (2 * root + 1)]! = false then d else Sort.siftDown Sort.ltInt hi F (2 * root + 1) (Sort.swp d (F + root) (F + (2 * root + 1))) := by
  rw [Sort.siftDown, dif_neg (by omega), if_neg]
  · cases hq : Sort.ltInt d[F + root]! d[F + (2 * root + 1)]! <;> simp
  · rw [show F + (2 * root + 1) = F + 2 * root + 1 by omega]
    by_cases h : 2 * root + 2 < hi
    · rw [show F + 2 * root + 1 + 1 = F + 2 * root + 2 by omega, h2 h]; simp
    · simp; omega

set_option maxHeartbeats 4000000 in
set_option maxRecDepth 100000 in
theorem sift (B blk off cap n lo hi F : Nat) (d : Array Int) (w0 w : World) (hS : St B blk off n w0 w d) (hB : B ≤ blk) (hlo : lo ≤ hi) (hb : F + hi ≤ n) (hn : n ≤ 4096) :
    Calls Yba.prog 123 #[.slice (some ⟨blk, off, none⟩) n cap, .int .i64 lo, .int .i64 hi, .int .i64 F] w fun e w' =>
      e = .returned (.tuple #[]) ∧ St B blk off n w0 w' (Sort.siftDown Sort.ltInt hi F lo d) := by
  have S0 : Hid (St B blk off n w0 w d) := hS
  clear hS
  go_enter Yba.func123, Yba.ntmps123
  go_wp2
  go_loopw [8] (fun vi wr => ∃ (root : Nat) (dk : Array Int), vi = .int .i64 root ∧ root ≤ hi ∧ Hid (St B blk off n w0 wr dk) ∧
      Hid (Sort.siftDown Sort.ltInt hi F root dk = Sort.siftDown Sort.ltInt hi F lo d)) (fun vi _ => hi - (RowKit.intOf vi).toNat)
  case atStart => exact ⟨lo, d, rfl, hlo, S0, rfl⟩
  case round =>
    obtain ⟨root, dk, rfl, hr, SK, HO⟩ := hrel
    by_cases h0 : hi ≤ 2 * root + 1
    · have h0z : (hi : Int) ≤ 2 * (root : Int) + 1 := by omega
      go_wp2_with fail
      go_end0
      refine ⟨rfl, ?_⟩
      rw [← HO.out, sift_end h0]; exact SK.out
    · have h0z : ¬ ((hi : Int) ≤ 2 * (root : Int) + 1) := by omega
      have hcw := SK.out.cell
      have hfw := SK.out.froz
      by_cases h1 : 2 * root + 2 < hi
      · have h1z : 2 * (root : Int) + 1 + 1 < (hi : Int) := by omega
        go_wp2_with fail
        go_big_quiet ((go_at_call 87; refine Calls.quiet_of_same (less _ _ _)))
        go_wp2_with fail
        · have hL : Sort.ltInt dk[F + 2 * root + 1]! dk[F + 2 * root + 2]! = true := by assumption
          have EQ : Hid (_ = _) := sift_R (F := F) h1 hL
          revert nq; intro nq1
          have S2 : Hid (St B blk off n w0 (wr.drewN nq1) dk) := SK.out.drewN nq1
          clear hcw hfw SK
          generalize wr.drewN nq1 = wr2 at S2 ⊢
          have hcw2 := S2.out.cell
          have hfw2 := S2.out.froz
          go_big_quiet ((go_at_call 87; refine Calls.quiet_of_same (less _ _ _)))
          go_wp2_with fail
          · have hS : Sort.ltInt dk[F + root]! dk[F + 2 * root + 2]! = false := by
              have : (!Sort.ltInt dk[F + root]! dk[F + 2 * root + 2]!) = true := by assumption
              simpa using this
            (try simp only [Exit.inBlock, Exit.then]); refine bodyPost_ret (results_none rfl _ _ _) rfl ?_
            refine ⟨rfl, ?_⟩
            rw [← HO.out, EQ.out, if_pos (by simpa [Nat.add_assoc] using hS)]
            exact S2.out.drewN nq
          · have hS : Sort.ltInt dk[F + root]! dk[F + 2 * root + 2]! = true := by
              have : (!Sort.ltInt dk[F + root]! dk[F + 2 * root + 2]!) = false := by assumption
              simpa using this
            have S3 : Hid (St B blk off n w0 (wr2.drewN nq) dk) := S2.out.drewN nq
            clear hcw2 hfw2 S2
            generalize wr2.drewN nq = wr3 at S3 ⊢
            have hcw3 := S3.out.cell
            have hfw3 := S3.out.froz
            go_region
            go_wp2_with fail
            go_roundw
            case rel =>
              refine ⟨2 * root + 2, Sort.swp dk (F + root) (F + (2 * root + 2)), by congr 1 <;> omega, by omega, (S3.out.swp hB (by omega) (by omega) rfl rfl).drew, ?_⟩
              show _ = _
              rw [← HO.out, EQ.out, if_neg (by rw [show F + (2 * root + 2) = F + 2 * root + 2 by omega, hS]; simp)]
            case measure => simp [RowKit.intOf]; omega
        · have hL : Sort.ltInt dk[F + 2 * root + 1]! dk[F + 2 * root + 2]! = false := by assumption
          have EQ : Hid (_ = _) := sift_L (F := F) (d := dk) (by omega : 2 * root + 1 < hi) (fun _ => hL)
          revert nq; intro nq1
          have S2 : Hid (St B blk off n w0 (wr.drewN nq1) dk) := SK.out.drewN nq1
          clear hcw hfw SK
          generalize wr.drewN nq1 = wr2 at S2 ⊢
          have hcw2 := S2.out.cell
          have hfw2 := S2.out.froz
          go_big_quiet ((go_at_call 87; refine Calls.quiet_of_same (less _ _ _)))
          go_wp2_with fail
          · have hS : Sort.ltInt dk[F + root]! dk[F + 2 * root + 1]! = false := by
              have : (!Sort.ltInt dk[F + root]! dk[F + 2 * root + 1]!) = true := by assumption
              simpa using this
            (try simp only [Exit.inBlock, Exit.then]); refine bodyPost_ret (results_none rfl _ _ _) rfl ?_
            refine ⟨rfl, ?_⟩
            rw [← HO.out, EQ.out, if_pos (by simpa [Nat.add_assoc] using hS)]
            exact S2.out.drewN nq
          · have hS : Sort.ltInt dk[F + root]! dk[F + 2 * root + 1]! = true := by
              have : (!Sort.ltInt dk[F + root]! dk[F + 2 * root + 1]!) = false := by assumption
              simpa using this
            have S3 : Hid (St B blk off n w0 (wr2.drewN nq) dk) := S2.out.drewN nq
            clear hcw2 hfw2 S2
            generalize wr2.drewN nq = wr3 at S3 ⊢
            have hcw3 := S3.out.cell
            have hfw3 := S3.out.froz
            go_region
            go_wp2_with fail
            go_roundw
            case rel =>
              refine ⟨2 * root + 1, Sort.swp dk (F + root) (F + (2 * root + 1)), by congr 1 <;> omega, by omega, (S3.out.swp hB (by omega) (by omega) rfl rfl).drew, ?_⟩
              show _ = _
              rw [← HO.out, EQ.out, if_neg (by rw [show F + (2 * root + 1) = F + 2 * root + 1 by omega, hS]; simp)]
            case measure => simp [RowKit.intOf]; omega
      · have h1z : decide (2 * (root : Int) + 1 + 1 < (hi : Int)) = false := decide_eq_false (by omega)
        go_wp2_with fail
        go_big_quiet ((go_at_call 87; refine Calls.quiet_of_same (less _ _ _)))
        go_wp2_with fail
        · have EQ : Hid (_ = _) := sift_L (F := F) (d := dk) (by omega : 2 * root + 1 < hi) (fun h => absurd h h1)
          revert nq; intro nq1
          have S2 : Hid (St B blk off n w0 (wr.drewN nq1) dk) := SK.out.drewN nq1
          clear hcw hfw SK
          generalize wr.drewN nq1 = wr2 at S2 ⊢
          have hcw2 := S2.out.cell
          have hfw2 := S2.out.froz
          go_big_quiet ((go_at_call 87; refine Calls.quiet_of_same (less _ _ _)))
          go_wp2_with fail
          · have hS : Sort.ltInt dk[F + root]! dk[F + 2 * root + 1]! = false := by
              have : (!Sort.ltInt dk[F + root]! dk[F + 2 * root + 1]!) = true := by assumption
              simpa using this
            (try simp only [Exit.inBlock, Exit.then]); refine bodyPost_ret (results_none rfl _ _ _) rfl ?_
            refine ⟨rfl, ?_⟩
            rw [← HO.out, EQ.out, if_pos (by simpa [Nat.add_assoc] using hS)]
            exact S2.out.drewN nq
          · have hS : Sort.ltInt dk[F + root]! dk[F + 2 * root + 1]! = true := by
              have : (!Sort.ltInt dk[F + root]! dk[F + 2 * root + 1]!) = false := by assumption
              simpa using this
            have S3 : Hid (St B blk off n w0 (wr2.drewN nq) dk) := S2.out.drewN nq
            clear hcw2 hfw2 S2
            generalize wr2.drewN nq = wr3 at S3 ⊢
            have hcw3 := S3.out.cell
            have hfw3 := S3.out.froz
            go_region
            go_wp2_with fail
            go_roundw
            case rel =>
              refine ⟨2 * root + 1, Sort.swp dk (F + root) (F + (2 * root + 1)), by congr 1 <;> omega, by omega, (S3.out.swp hB (by omega) (by omega) rfl rfl).drew, ?_⟩
              show _ = _
              rw [← HO.out, EQ.out, if_neg (by rw [show F + (2 * root + 1) = F + 2 * root + 1 by omega, hS]; simp)]
            case measure => simp [RowKit.intOf]; omega

end Go.Proofs.Ybulkebla
