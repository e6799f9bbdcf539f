import Derived.Test.YbulkeblaKit
/-! slices.insertionSortOrdered at int32 (81). -/
namespace Go.Proofs.Ybulkebla
open Go.RowKit
set_option linter.unusedVariables false

theorem in_go {a j : Nat} {d : Array Int} (hj : a < j) (hl : Sort.ltInt d[j]! d[j - 1]! = true) : Sort.insInner Sort.ltInt a j d = Sort.insInner Sort.ltInt a (j - 1) (Sort.swp d j (j - 1)) := by
  cases j with
  | zero => omega
  | succ k => rw [Sort.insInner]; simp only [Nat.add_sub_cancel] at hl ⊢; rw [if_pos (by simp [hl, hj])]
theorem in_stop {a j : Nat} {d : Array Int} (h : j ≤ a ∨ Sort.ltInt d[j]! d[j - 1]! = false) : Sort.insInner Sort.ltInt a j d = d := by
  cases j with
  | zero => rfl
  | succ k =>
    rw [Sort.insInner]; simp only [Nat.add_sub_cancel] at h
    rw [if_neg]
    rcases h with h | h
    · simp; omega
    · simp [h]

set_option maxHeartbeats 2000000 in
set_option maxRecDepth 100000 in
theorem insertion (B blk off cap n a b : Nat) (d : Array Int) (w0 w : World) (hS : St B blk off n w0 w d) (hB : B ≤ blk) (hab : a ≤ b) (hb : b ≤ n) (hn : n ≤ 4096) :
    Calls Yba.prog 81 #[.slice (some ⟨blk, off, none⟩) n cap, .int .i64 a, .int .i64 b] w fun e w' =>
      e = .returned (.tuple #[]) ∧ St B blk off n w0 w' (Sort.insertionSort Sort.ltInt d a b) := by
  have S0 : Hid (St B blk off n w0 w d) := hS
  clear hS
  go_enter Yba.func81, Yba.ntmps81
  go_wp2
  go_loopw [6] (fun vi wr => ∃ (i : Nat) (dk : Array Int), vi = .int .i64 i ∧ a < i ∧ i ≤ b + 1 ∧ Hid (St B blk off n w0 wr dk) ∧
      Hid (Sort.insOuter Sort.ltInt a b i dk = Sort.insOuter Sort.ltInt a b (a + 1) d)) (fun vi _ => b + 1 - (RowKit.intOf vi).toNat)
  case atStart => exact ⟨a + 1, d, by go_num, by omega, by omega, S0, rfl⟩
  case round =>
    obtain ⟨i, dk, rfl, hai, hib, SK, HO⟩ := hrel
    by_cases hlt : i < b
    · go_wp2_with fail
      go_loopw [7] (fun vj wr2 => ∃ (j : Nat) (dj : Array Int), vj = .int .i64 j ∧ a ≤ j ∧ j ≤ i ∧ Hid (St B blk off n w0 wr2 dj) ∧
          Hid (Sort.insInner Sort.ltInt a j dj = Sort.insInner Sort.ltInt a i dk)) (fun vj _ => (RowKit.intOf vj).toNat)
      case atStart => exact ⟨i, dk, rfl, by omega, Nat.le_refl _, SK, rfl⟩
      case round =>
        obtain ⟨j, dj, rfl, haj, hji, SJ, HI⟩ := hrel
        have hcw := SJ.out.cell
        have hfw := SJ.out.froz
        have OUT : Hid ((j ≤ a ∨ Sort.ltInt dj[j]! dj[j - 1]! = false) → ∀ q, ∃ (i' : Nat) (dk' : Array Int), Value.int .i64 ((i : Int) + 1) = .int .i64 (i' : Nat) ∧ a < i' ∧ i' ≤ b + 1 ∧ Hid (St B blk off n w0 (wr.drewN q) dk') ∧
            Hid (Sort.insOuter Sort.ltInt a b i' dk' = Sort.insOuter Sort.ltInt a b (a + 1) d)) := fun hs q =>
          ⟨i + 1, dj, by go_num, by omega, by omega, SJ.out.drewN q, by
            show _ = _
            rw [← HO.out]; rw [Sort.insOuter.eq_1 Sort.ltInt a b i dk, if_pos hlt, ← HI.out, in_stop hs]⟩
        by_cases hja : a < j
        · go_wp2_with fail
          go_quiet ((go_at_call 87; refine Calls.quiet_of_same (less _ _ _)))
          go_wp2_with fail
          · have hl : Sort.ltInt dj[j]! dj[j - 1]! = true := by assumption
            go_region
            go_wp2_with fail
            go_roundw
            case rel =>
              refine ⟨j - 1, Sort.swp dj j (j - 1), by congr 1; omega, by omega, by omega, (SJ.out.drewN (nq + 1)).swp hB (by omega) (by omega) rfl rfl, ?_⟩
              show _ = _
              rw [← HI.out, in_go hja hl]
            case measure => simp [RowKit.intOf]; omega
          · have hl : Sort.ltInt dj[j]! dj[j - 1]! = false := by assumption
            go_roundw
            case rel => exact OUT.out (Or.inr hl) nq
            case measure => simp [RowKit.intOf]; omega
        · go_wp2_with fail
          go_quiet ((go_at_call 87; refine Calls.quiet_of_same (less _ _ _)))
          go_wp2_with fail
          go_roundw
          case rel => exact OUT.out (Or.inl (by omega)) nq
          case measure => simp [RowKit.intOf]; omega
    · go_wp2_with fail
      go_end0
      refine ⟨rfl, ?_⟩
      have : dk = Sort.insertionSort Sort.ltInt d a b := by
        unfold Sort.insertionSort; rw [← HO.out, Sort.insOuter.eq_1, if_neg hlt]
      rw [← this]; exact SK.out

end Go.Proofs.Ybulkebla
