import Derived.Test.YbulkeblaKit
import Derived.Deep.CutBlock
import Derived.Deep.DeepCutAuto
import Derived.BigRegion
/-! slices.partialInsertionSortOrdered at int32 (86). -/
namespace Go.Proofs.Ybulkebla
open Go.RowKit
set_option linter.unusedVariables false

theorem ss_go {b i : Nat} {d : Array Int} (h : i < b) (hl : Sort.ltInt d[i]! d[i - 1]! = false) : Sort.scanSorted Sort.ltInt d b i = Sort.scanSorted Sort.ltInt d b (i + 1) := by
  rw [Sort.scanSorted.eq_1 Sort.ltInt d b i, if_pos (by simp [h, hl])]
theorem ss_stop {b i : Nat} {d : Array Int} (h : i < b → Sort.ltInt d[i]! d[i - 1]! = true) : Sort.scanSorted Sort.ltInt d b i = i := by
  rw [Sort.scanSorted, if_neg]
  by_cases hb : i < b
  · simp [h hb]
  · simp [hb]
theorem sd_go {j : Nat} {d : Array Int} (h : 1 ≤ j) (hl : Sort.ltInt d[j]! d[j - 1]! = true) : Sort.shiftDown Sort.ltInt j d = Sort.shiftDown Sort.ltInt (j - 1) (Sort.swp d j (j - 1)) := by
  cases j with
  | zero => omega
  | succ k => rw [Sort.shiftDown]; simp only [Nat.add_sub_cancel] at hl ⊢; simp [hl]
theorem sd_stop {j : Nat} {d : Array Int} (h : 1 ≤ j → Sort.ltInt d[j]! d[j - 1]! = false) : Sort.shiftDown Sort.ltInt j d = d := by
  cases j with
  | zero => rfl
  | succ k => rw [Sort.shiftDown]; have := h (by omega); simp only [Nat.add_sub_cancel] at this; simp [this]
theorem su_go {b j : Nat} {d : Array Int} (h : j < b) (hl : Sort.ltInt d[j]! d[j - 1]! = true) : Sort.shiftUp Sort.ltInt b j d = Sort.shiftUp Sort.ltInt b (j + 1) (Sort.swp d j (j - 1)) := by
  rw [Sort.shiftUp.eq_1 Sort.ltInt b j d, if_pos h]; simp [hl]
theorem su_stop {b j : Nat} {d : Array Int} (h : j < b → Sort.ltInt d[j]! d[j - 1]! = false) : Sort.shiftUp Sort.ltInt b j d = d := by
  rw [Sort.shiftUp]
  by_cases hb : j < b
  · simp [hb, h hb]
  · simp [hb]

theorem pi_true {a b k i i2 : Nat} {d : Array Int} (h : Sort.scanSorted Sort.ltInt d b i = i2) (hb : i2 = b) : Sort.partialIns Sort.ltInt a b (k + 1) i d = (d, true) := by
  rw [Sort.partialIns]; simp only [h, hb, if_true]
theorem pi_short {a b k i i2 : Nat} {d : Array Int} (h : Sort.scanSorted Sort.ltInt d b i = i2) (hb : i2 ≠ b) (h5 : b - a < 50) : Sort.partialIns Sort.ltInt a b (k + 1) i d = (d, false) := by
  rw [Sort.partialIns]; simp only [h, if_neg hb, if_pos h5]
theorem pi_go {a b k i i2 : Nat} {d D2 D3 : Array Int} (h : Sort.scanSorted Sort.ltInt d b i = i2) (hb : i2 ≠ b) (h5 : ¬ b - a < 50)
    (h2 : (if i2 - a ≥ 2 then Sort.shiftDown Sort.ltInt (i2 - 1) (Sort.swp d i2 (i2 - 1)) else Sort.swp d i2 (i2 - 1)) = D2)
    (h3 : (if b - i2 ≥ 2 then Sort.shiftUp Sort.ltInt b (i2 + 1) D2 else D2) = D3) : Sort.partialIns Sort.ltInt a b (k + 1) i d = Sort.partialIns Sort.ltInt a b k i2 D3 := by
  rw [Sort.partialIns]; simp only [h, if_neg hb, if_neg h5, h2, h3]

set_option maxHeartbeats 8000000 in
set_option maxRecDepth 100000 in
theorem partialIns (B blk off cap n a b : Nat) (d : Array Int) (w0 w : World) (hS : St B blk off n w0 w d) (hB : B ≤ blk) (hab : a < b) (hb : b ≤ n) (hn : n ≤ 4096) :
    Calls Yba.prog 86 #[.slice (some ⟨blk, off, none⟩) n cap, .int .i64 a, .int .i64 b] w fun e w' =>
      e = .returned (.bool (Sort.partialInsertionSort Sort.ltInt d a b).2) ∧ St B blk off n w0 w' (Sort.partialInsertionSort Sort.ltInt d a b).1 := by
  unfold Sort.partialInsertionSort
  obtain ⟨R, HR⟩ : ∃ R, Hid (Sort.partialIns Sort.ltInt a b 5 (a + 1) d = R) := ⟨_, rfl⟩
  rw [HR.out]
  have S0 : Hid (St B blk off n w0 w d) := hS
  clear hS
  go_enter Yba.func86, Yba.ntmps86
  go_wp2_with fail
  go_loopw [7, 8] (fun vi vj wr => ∃ (k i : Nat) (dk : Array Int), vi = .int .i64 i ∧ vj = .int .i64 (5 - (k : Int)) ∧ k ≤ 5 ∧ a < i ∧ i ≤ b ∧ Hid (St B blk off n w0 wr dk) ∧
      Hid (Sort.partialIns Sort.ltInt a b k i dk = R)) (fun vi vj _ => (5 - RowKit.intOf vj).toNat)
  case atStart => exact ⟨5, a + 1, d, by go_num, by simp, by omega, by omega, by omega, S0, HR⟩
  case round =>
    obtain ⟨k, i0, dk, rfl, rfl, hk, hai, hib, SK, HO⟩ := hrel
    cases k with
    | zero =>
      go_wp2_with fail
      go_ret
      have : R = (dk, false) := HO.out.symm
      rw [this]; exact ⟨rfl, SK.out⟩
    | succ k =>
      have hk5 : (5 : Int) - ((k + 1 : Nat) : Int) < 5 := by omega
      go_upto_block 2 with fail
      go_cut [7] (fun vi wx => ∃ (i : Nat), vi = .int .i64 i ∧ a < i ∧ i ≤ b ∧ Hid (Sort.scanSorted Sort.ltInt dk b i0 = i) ∧ Hid (St B blk off n w0 wx dk))
      case first =>
        go_wp2_with fail
        go_loopw [7] (fun vi wr => ∃ (i : Nat), vi = .int .i64 i ∧ a < i ∧ i ≤ b ∧ Hid (Sort.scanSorted Sort.ltInt dk b i0 = Sort.scanSorted Sort.ltInt dk b i) ∧ Hid (St B blk off n w0 wr dk)) (fun vi _ => b - (RowKit.intOf vi).toNat)
        case atStart => exact ⟨i0, rfl, hai, hib, rfl, SK⟩
        case round =>
          obtain ⟨i, rfl, hai, hib, HI, SK⟩ := hrel
          have hcw := SK.out.cell
          have hfw := SK.out.froz
          by_cases hij : i < b
          · go_wp2_with fail
            go_quiet ((go_at_call 87; refine Calls.quiet_of_same (less _ _ _)))
            go_wp2_with fail
            · have hl : Sort.ltInt dk[i]! dk[i - 1]! = false := by
                have h : (!Sort.ltInt dk[i]! dk[i - 1]!) = true := by assumption
                simpa using h
              go_roundw
              case rel => exact ⟨i + 1, by go_num, by omega, by omega, HI.out.trans (ss_go hij hl), SK.out.drewN nq⟩
              case measure => simp [RowKit.intOf]; omega
            · have hl : Sort.ltInt dk[i]! dk[i - 1]! = true := by
                have h : (!Sort.ltInt dk[i]! dk[i - 1]!) = false := by assumption
                simpa using h
              go_meet
              case rel => exact ⟨i, rfl, hai, by omega, HI.out.trans (ss_stop (fun _ => hl)), SK.out.drewN nq⟩
          · go_wp2_with fail
            go_quiet ((go_at_call 87; refine Calls.quiet_of_same (less _ _ _)))
            go_wp2_with fail
            go_meet
            case rel => exact ⟨i, rfl, hai, by omega, HI.out.trans (ss_stop (fun h => absurd h hij)), SK.out.drewN nq⟩
      case rest =>
        clear SK
        obtain ⟨i, rfl, hai, hib, HI, SK⟩ := hcut
        by_cases hie : i = b
        · have E : R = (dk, true) := by rw [← HO.out]; exact pi_true HI.out hie
          subst hie
          go_wp2_with fail
          go_ret
          rw [E]; exact ⟨rfl, SK.out⟩
        by_cases h5 : b - a < 50
        · have E : R = (dk, false) := by rw [← HO.out]; exact pi_short HI.out hie h5
          go_wp2_with fail
          go_ret
          rw [E]; exact ⟨rfl, SK.out⟩
        have hcw := SK.out.cell
        have hfw := SK.out.froz
        go_wp2_with fail
        go_region
        have S2 : Hid _ := (SK.out.swp (i := i) (j := i - 1) hB (by omega) (by omega) rfl rfl).drew
        go_upto_if 61 with fail
        go_cut [] (fun wx => ∃ D2, Hid (St B blk off n w0 wx D2) ∧ Hid ((if i - a ≥ 2 then Sort.shiftDown Sort.ltInt (i - 1) (Sort.swp dk i (i - 1)) else Sort.swp dk i (i - 1)) = D2))
        case first =>
          by_cases hi2 : i - a ≥ 2
          · go_wp2_with fail
            go_loopw [9] (fun vj wr => ∃ (j : Nat) (dj : Array Int), vj = .int .i64 j ∧ j ≤ i - 1 ∧ Hid (St B blk off n w0 wr dj) ∧
              Hid (Sort.shiftDown Sort.ltInt (i - 1) (Sort.swp dk i (i - 1)) = Sort.shiftDown Sort.ltInt j dj)) (fun vj _ => (RowKit.intOf vj).toNat)
            case atStart => exact ⟨i - 1, _, by congr 1; omega, Nat.le_refl _, S2, rfl⟩
            case round =>
              obtain ⟨j, dj, rfl, hji, SJ, HJ⟩ := hrel
              have hcw2 := SJ.out.cell
              have hfw2 := SJ.out.froz
              by_cases hj1 : 1 ≤ j
              · go_wp2_with fail
                go_quiet ((go_at_call 87; refine Calls.quiet_of_same (less _ _ _)))
                go_wp2_with fail
                · have hl : Sort.ltInt dj[j]! dj[j - 1]! = false := by
                    have h : (!Sort.ltInt dj[j]! dj[j - 1]!) = true := by assumption
                    simpa using h
                  go_meet
                  case rel => exact ⟨dj, SJ.out.drewN nq, by show _ = _; rw [if_pos hi2, HJ.out, sd_stop (fun _ => hl)]⟩
                · have hl : Sort.ltInt dj[j]! dj[j - 1]! = true := by
                    have h : (!Sort.ltInt dj[j]! dj[j - 1]!) = false := by assumption
                    simpa using h
                  go_region
                  go_wp2_with fail
                  go_roundw
                  case rel => exact ⟨j - 1, Sort.swp dj j (j - 1), by congr 1; omega, by omega, (SJ.out.drewN (nq + 1)).swp hB (by omega) (by omega) rfl rfl, HJ.out.trans (sd_go hj1 hl)⟩
                  case measure => simp [RowKit.intOf]; omega
              · go_wp2_with fail
                go_meet
                case rel => exact ⟨dj, SJ, by show _ = _; rw [if_pos hi2, HJ.out, sd_stop (fun h => absurd h hj1)]⟩
          · go_wp2_with fail
            go_meet
            case rel => exact ⟨_, S2, by show _ = _; rw [if_neg hi2]⟩
        case rest =>
          obtain ⟨D2, S3, H2⟩ := hcut
          clear SK S2 hcw hfw
          by_cases hi2 : b - i ≥ 2
          · go_wp2_with fail
            go_loopw [10] (fun vj wr => ∃ (j : Nat) (dj : Array Int), vj = .int .i64 j ∧ i < j ∧ j ≤ b ∧ Hid (St B blk off n w0 wr dj) ∧
              Hid (Sort.shiftUp Sort.ltInt b (i + 1) D2 = Sort.shiftUp Sort.ltInt b j dj)) (fun vj _ => b - (RowKit.intOf vj).toNat)
            case atStart => exact ⟨i + 1, D2, by go_num, by omega, by omega, S3, rfl⟩
            case round =>
              obtain ⟨j, dj, rfl, hij, hjb, SJ, HJ⟩ := hrel
              have hcw2 := SJ.out.cell
              have hfw2 := SJ.out.froz
              by_cases hj1 : j < b
              · go_wp2_with fail
                go_quiet ((go_at_call 87; refine Calls.quiet_of_same (less _ _ _)))
                go_wp2_with fail
                · have hl : Sort.ltInt dj[j]! dj[j - 1]! = false := by
                    have h : (!Sort.ltInt dj[j]! dj[j - 1]!) = true := by assumption
                    simpa using h
                  go_roundw
                  case rel =>
                    refine ⟨k, i, dj, rfl, by congr 1; omega, by omega, by omega, by omega, SJ.out.drewN nq, ?_⟩
                    show _ = _
                    rw [← HO.out]
                    exact (pi_go HI.out hie h5 H2.out (by rw [if_pos hi2, HJ.out, su_stop (fun _ => hl)])).symm
                  case measure => simp [RowKit.intOf]; omega
                · have hl : Sort.ltInt dj[j]! dj[j - 1]! = true := by
                    have h : (!Sort.ltInt dj[j]! dj[j - 1]!) = false := by assumption
                    simpa using h
                  go_region
                  go_wp2_with fail
                  go_roundw
                  case rel => exact ⟨j + 1, Sort.swp dj j (j - 1), by go_num, by omega, by omega, (SJ.out.drewN (nq + 1)).swp hB (by omega) (by omega) rfl rfl, HJ.out.trans (su_go hj1 hl)⟩
                  case measure => simp [RowKit.intOf]; omega
              · go_wp2_with fail
                go_roundw
                case rel =>
                  refine ⟨k, i, dj, rfl, by congr 1; omega, by omega, by omega, by omega, SJ, ?_⟩
                  show _ = _
                  rw [← HO.out]
                  exact (pi_go HI.out hie h5 H2.out (by rw [if_pos hi2, HJ.out, su_stop (fun h => absurd h hj1)])).symm
                case measure => simp [RowKit.intOf]; omega
          · go_wp2_with fail
            go_roundw
            case rel =>
              refine ⟨k, i, D2, rfl, by congr 1; omega, by omega, by omega, by omega, S3, ?_⟩
              show _ = _
              rw [← HO.out]
              exact (pi_go HI.out hie h5 H2.out (by rw [if_neg hi2])).symm
            case measure => simp [RowKit.intOf]; omega

end Go.Proofs.Ybulkebla
