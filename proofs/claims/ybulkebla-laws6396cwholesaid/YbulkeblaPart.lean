import Derived.Test.YbulkeblaPartP
import Derived.Deep.CutBlock
import Derived.Deep.DeepCutAuto
import Derived.BigRegion
/-! slices.partitionOrdered at int32 (89). -/
namespace Go.Proofs.Ybulkebla
open Go.RowKit
set_option linter.unusedVariables false

set_option maxHeartbeats 8000000 in
set_option maxRecDepth 100000 in
theorem partition (B blk off cap n a c p : Nat) (d : Array Int) (w0 w : World) (hS : St B blk off n w0 w d) (hB : B ≤ blk) (hap : a ≤ p) (hpb : p < c + 1) (hb : c + 1 ≤ n) (hn : n ≤ 4096) :
    Calls Yba.prog 89 #[.slice (some ⟨blk, off, none⟩) n cap, .int .i64 a, .int .i64 ((c : Int) + 1), .int .i64 p] w fun e w' =>
      ∃ (mid : Nat) (f : Bool) (d' : Array Int), e = .returned (.tuple #[.int .i64 mid, .bool f]) ∧ PartOut a (c + 1) d d' mid ∧ St B blk off n w0 w' d' := by
  have S0 : Hid (St B blk off n w0 w d) := hS
  have hcw := hS.cell
  have hfw := hS.froz
  clear hS
  go_enter Yba.func89, Yba.ntmps89
  go_upto_region 1 with fail
  go_cut [] (fun wx => Hid (St B blk off n w0 wx (Sort.swp d a p)))
  case first =>
    by_cases hq : a = p
    · subst hq
      go_region
      go_wp2_with fail
      go_meet
      case rel => exact (S0.out.swp hB (by omega) (by omega) rfl rfl).drew
    · go_region
      go_wp2_with fail
      go_meet
      case rel => exact (S0.out.swp hB (by omega) (by omega) rfl rfl).drew
  case rest =>
    have SK := hcut
    clear hcut hcw hfw S0
    obtain ⟨D1, HD⟩ : ∃ D1, Hid (Sort.swp d a p = D1) := ⟨_, rfl⟩
    rw [HD.out] at SK
    have HP : Hid (PI Sort.ltInt a (c + 1) D1 D1 (a + 1) c) := PI.start (by omega) (by rw [SK.out.size]; exact hb)
    obtain ⟨dk, HK⟩ : ∃ dk, Hid (dk = D1) := ⟨_, rfl⟩
    have HP : Hid (PI Sort.ltInt a (c + 1) D1 dk (a + 1) c) := HK.out.symm ▸ HP
    have SK : Hid (St B blk off n w0 wc dk) := HK.out.symm ▸ SK
    go_upto_block 0 with fail
    go_cut [10, 11] (fun vi vj wx => ∃ (i j : Nat), vi = .int .i64 i ∧ vj = .int .i64 j ∧ (a + 1) ≤ i ∧ j ≤ c ∧ Hid (PI Sort.ltInt a (c + 1) D1 dk i j) ∧ Hid (i ≤ j → Sort.ltInt dk[i]! dk[a]! = false) ∧ Hid (St B blk off n w0 wx dk))
    case first =>
      go_wp2_with fail
      go_loopw [10] (fun vi wr => ∃ (i : Nat), vi = .int .i64 i ∧ (a + 1) ≤ i ∧ Hid (PI Sort.ltInt a (c + 1) D1 dk i c) ∧ Hid (St B blk off n w0 wr dk)) (fun vi _ => c + 1 - (RowKit.intOf vi).toNat)
      case atStart => exact ⟨(a + 1), by first | rfl | go_num, Nat.le_refl _, HP, SK⟩
      case round =>
        obtain ⟨i, rfl, hii, HP, SK⟩ := hrel
        have p1 := HP.out.ai
        have p2 := HP.out.ij
        have p3 := HP.out.jb
        have hcw := SK.out.cell
        have hfw := SK.out.froz
        by_cases hij : i ≤ c
        · go_wp2_with fail
          go_quiet ((go_at_call 87; refine Calls.quiet_of_same (less _ _ _)))
          go_wp2_with fail
          · have hl : Sort.ltInt dk[i]! dk[a]! = true := by assumption
            go_roundw
            case rel => exact ⟨i + 1, by go_num, by omega, HP.out.up hij hl, SK.out.drewN nq⟩
            case measure => simp [RowKit.intOf]; omega
          · have hl : Sort.ltInt dk[i]! dk[a]! = false := by assumption
            go_meet
            case rel => exact ⟨i, c, rfl, rfl, by omega, by omega, HP, fun _ => hl, SK.out.drewN nq⟩
        · go_wp2_with fail
          go_quiet ((go_at_call 87; refine Calls.quiet_of_same (less _ _ _)))
          go_wp2_with fail
          go_meet
          case rel => exact ⟨i, c, rfl, rfl, by omega, by omega, HP, fun h => absurd h hij, SK.out.drewN nq⟩
    case rest =>
      clear HP SK
      obtain ⟨i1, j1, rfl, rfl, hi1, hj1, HP, HI, SK⟩ := hcut
      go_upto_block 2 with fail
      go_cut [10, 11] (fun vi vj wx => ∃ (i j : Nat), vi = .int .i64 i ∧ vj = .int .i64 j ∧ (a + 1) ≤ i ∧ j ≤ c ∧ Hid (PI Sort.ltInt a (c + 1) D1 dk i j) ∧ Hid (i ≤ j → Sort.ltInt dk[i]! dk[a]! = false ∧ Sort.ltInt dk[j]! dk[a]! = true) ∧ Hid (St B blk off n w0 wx dk))
      case first =>
        go_wp2_with fail
        go_loopw [11] (fun vj wr => ∃ (j : Nat), vj = .int .i64 j ∧ j ≤ j1 ∧ Hid (PI Sort.ltInt a (c + 1) D1 dk i1 j) ∧ Hid (St B blk off n w0 wr dk)) (fun vj _ => (RowKit.intOf vj).toNat)
        case atStart => exact ⟨_, by rfl, Nat.le_refl _, HP, SK⟩
        case round =>
          obtain ⟨j, rfl, hjj, HP, SK⟩ := hrel
          have p1 := HP.out.ai
          have p2 := HP.out.ij
          have p3 := HP.out.jb
          have hcw := SK.out.cell
          have hfw := SK.out.froz
          by_cases hij : i1 ≤ j
          · go_wp2_with fail
            go_quiet ((go_at_call 87; refine Calls.quiet_of_same (less _ _ _)))
            go_wp2_with fail
            · have hl : Sort.ltInt dk[j]! dk[a]! = false := (by
                  have h : (!Sort.ltInt dk[j]! dk[a]!) = true := by assumption
                  simpa using h)
              go_roundw
              case rel => exact ⟨j - 1, by congr 1; omega, by omega, HP.out.down hij hl, SK.out.drewN nq⟩
              case measure => simp [RowKit.intOf]; omega
            · have hl : Sort.ltInt dk[j]! dk[a]! = true := (by
                  have h : (!Sort.ltInt dk[j]! dk[a]!) = false := by assumption
                  simpa using h)
              go_meet
              case rel => exact ⟨i1, j, rfl, rfl, by omega, by omega, HP, fun h => ⟨HI.out (by omega), hl⟩, SK.out.drewN nq⟩
          · go_wp2_with fail
            go_quiet ((go_at_call 87; refine Calls.quiet_of_same (less _ _ _)))
            go_wp2_with fail
            go_meet
            case rel => exact ⟨i1, j, rfl, rfl, by omega, by omega, HP, fun h => absurd h hij, SK.out.drewN nq⟩
      case rest =>
        clear HP SK HI
        obtain ⟨i, j, rfl, rfl, hi2, hj2, HP, HI, SK⟩ := hcut
        have p1 := HP.out.ai
        have p2 := HP.out.ij
        have p3 := HP.out.jb
        have hcw := SK.out.cell
        have hfw := SK.out.froz
        by_cases hij : i ≤ j
        · obtain ⟨q1, q2⟩ := HI.out hij
          obtain ⟨hlt, HP2⟩ := HP.out.swap hij q1 q2
          have HP3 : Hid _ := HP2
          clear HP2 q1 q2
          go_wp2_with fail
          go_region
          have S3 : Hid _ := (SK.out.swp (i := i) (j := j) hB (by omega) (by omega) rfl rfl).drew
          go_wp2_with fail
          go_loopw [10, 11] (fun vi vj wr => ∃ (i j : Nat) (dk : Array Int), vi = .int .i64 i ∧ vj = .int .i64 j ∧ Hid (PI Sort.ltInt a (c + 1) D1 dk i j) ∧ Hid (St B blk off n w0 wr dk)) (fun vi vj _ => (RowKit.intOf vj + 1 - RowKit.intOf vi).toNat)
          case atStart => exact ⟨i + 1, j - 1, _, by go_num, by congr 1; omega, HP3, S3⟩
          case round =>
            obtain ⟨i0, j0, dk, rfl, rfl, HP, SK⟩ := hrel
            have p1 := HP.out.ai
            have p2 := HP.out.ij
            have p3 := HP.out.jb
            go_upto_block 6 with fail
            go_cut [10, 11] (fun vi vj wx => ∃ (i j : Nat), vi = .int .i64 i ∧ vj = .int .i64 j ∧ i0 ≤ i ∧ j ≤ j0 ∧ Hid (PI Sort.ltInt a (c + 1) D1 dk i j) ∧ Hid (i ≤ j → Sort.ltInt dk[i]! dk[a]! = false) ∧ Hid (St B blk off n w0 wx dk))
            case first =>
              go_wp2_with fail
              go_loopw [10] (fun vi wr => ∃ (i : Nat), vi = .int .i64 i ∧ i0 ≤ i ∧ Hid (PI Sort.ltInt a (c + 1) D1 dk i j0) ∧ Hid (St B blk off n w0 wr dk)) (fun vi _ => c + 1 - (RowKit.intOf vi).toNat)
              case atStart => exact ⟨i0, by first | rfl | go_num, Nat.le_refl _, HP, SK⟩
              case round =>
                obtain ⟨i, rfl, hii, HP, SK⟩ := hrel
                have p1 := HP.out.ai
                have p2 := HP.out.ij
                have p3 := HP.out.jb
                have hcw := SK.out.cell
                have hfw := SK.out.froz
                by_cases hij : i ≤ j0
                · go_wp2_with fail
                  go_quiet ((go_at_call 87; refine Calls.quiet_of_same (less _ _ _)))
                  go_wp2_with fail
                  · have hl : Sort.ltInt dk[i]! dk[a]! = true := by assumption
                    go_roundw
                    case rel => exact ⟨i + 1, by go_num, by omega, HP.out.up hij hl, SK.out.drewN nq⟩
                    case measure => simp [RowKit.intOf]; omega
                  · have hl : Sort.ltInt dk[i]! dk[a]! = false := by assumption
                    go_meet
                    case rel => exact ⟨i, j0, rfl, rfl, by omega, by omega, HP, fun _ => hl, SK.out.drewN nq⟩
                · go_wp2_with fail
                  go_quiet ((go_at_call 87; refine Calls.quiet_of_same (less _ _ _)))
                  go_wp2_with fail
                  go_meet
                  case rel => exact ⟨i, j0, rfl, rfl, by omega, by omega, HP, fun h => absurd h hij, SK.out.drewN nq⟩
            case rest =>
              clear HP SK
              obtain ⟨i1, j1, rfl, rfl, hi1, hj1, HP, HI, SK⟩ := hcut
              go_upto_block 8 with fail
              go_cut [10, 11] (fun vi vj wx => ∃ (i j : Nat), vi = .int .i64 i ∧ vj = .int .i64 j ∧ i0 ≤ i ∧ j ≤ j0 ∧ Hid (PI Sort.ltInt a (c + 1) D1 dk i j) ∧ Hid (i ≤ j → Sort.ltInt dk[i]! dk[a]! = false ∧ Sort.ltInt dk[j]! dk[a]! = true) ∧ Hid (St B blk off n w0 wx dk))
              case first =>
                go_wp2_with fail
                go_loopw [11] (fun vj wr => ∃ (j : Nat), vj = .int .i64 j ∧ j ≤ j1 ∧ Hid (PI Sort.ltInt a (c + 1) D1 dk i1 j) ∧ Hid (St B blk off n w0 wr dk)) (fun vj _ => (RowKit.intOf vj).toNat)
                case atStart => exact ⟨_, by rfl, Nat.le_refl _, HP, SK⟩
                case round =>
                  obtain ⟨j, rfl, hjj, HP, SK⟩ := hrel
                  have p1 := HP.out.ai
                  have p2 := HP.out.ij
                  have p3 := HP.out.jb
                  have hcw := SK.out.cell
                  have hfw := SK.out.froz
                  by_cases hij : i1 ≤ j
                  · go_wp2_with fail
                    go_quiet ((go_at_call 87; refine Calls.quiet_of_same (less _ _ _)))
                    go_wp2_with fail
                    · have hl : Sort.ltInt dk[j]! dk[a]! = false := (by
                          have h : (!Sort.ltInt dk[j]! dk[a]!) = true := by assumption
                          simpa using h)
                      go_roundw
                      case rel => exact ⟨j - 1, by congr 1; omega, by omega, HP.out.down hij hl, SK.out.drewN nq⟩
                      case measure => simp [RowKit.intOf]; omega
                    · have hl : Sort.ltInt dk[j]! dk[a]! = true := (by
                          have h : (!Sort.ltInt dk[j]! dk[a]!) = false := by assumption
                          simpa using h)
                      go_meet
                      case rel => exact ⟨i1, j, rfl, rfl, by omega, by omega, HP, fun h => ⟨HI.out (by omega), hl⟩, SK.out.drewN nq⟩
                  · go_wp2_with fail
                    go_quiet ((go_at_call 87; refine Calls.quiet_of_same (less _ _ _)))
                    go_wp2_with fail
                    go_meet
                    case rel => exact ⟨i1, j, rfl, rfl, by omega, by omega, HP, fun h => absurd h hij, SK.out.drewN nq⟩
              case rest =>
                clear HP SK HI
                obtain ⟨i, j, rfl, rfl, hi2, hj2, HP, HI, SK⟩ := hcut
                have p1 := HP.out.ai
                have p2 := HP.out.ij
                have p3 := HP.out.jb
                have hcw := SK.out.cell
                have hfw := SK.out.froz
                by_cases hij : i ≤ j
                · obtain ⟨q1, q2⟩ := HI.out hij
                  obtain ⟨hlt, HP2⟩ := HP.out.swap hij q1 q2
                  have HP3 : Hid _ := HP2
                  clear HP2 q1 q2
                  go_wp2_with fail
                  go_region
                  go_wp2_with fail
                  go_roundw
                  case rel => exact ⟨i + 1, j - 1, _, by go_num, by congr 1; omega, HP3, (SK.out.swp (i := i) (j := j) hB (by omega) (by omega) rfl rfl).drew⟩
                  case measure => simp [RowKit.intOf]; omega
                · by_cases hja : j = a
                  · subst hja
                    go_wp2_with fail
                    go_region
                    go_wp2_with fail
                    go_ret2
                    exact ⟨j, false, _, rfl, (HD.out ▸ HP.out).fin hap hpb (by omega), (SK.out.swp (i := j) (j := j) hB (by omega) (by omega) rfl rfl).drew⟩
                  · go_wp2_with fail
                    go_region
                    go_wp2_with fail
                    go_ret2
                    exact ⟨j, false, _, rfl, (HD.out ▸ HP.out).fin hap hpb (by omega), (SK.out.swp (i := j) (j := a) hB (by omega) (by omega) rfl rfl).drew⟩
        · by_cases hja : j = a
          · subst hja
            go_wp2_with fail
            go_region
            go_wp2_with fail
            go_ret2
            exact ⟨j, true, _, rfl, (HD.out ▸ HP.out).fin hap hpb (by omega), (SK.out.swp (i := j) (j := j) hB (by omega) (by omega) rfl rfl).drew⟩
          · go_wp2_with fail
            go_region
            go_wp2_with fail
            go_ret2
            exact ⟨j, true, _, rfl, (HD.out ▸ HP.out).fin hap hpb (by omega), (SK.out.swp (i := j) (j := a) hB (by omega) (by omega) rfl rfl).drew⟩

end Go.Proofs.Ybulkebla
