import Derived.Test.YbulkeblaKit
/-! slices.reverseRangeOrdered at int32 (85). -/
namespace Go.Proofs.Ybulkebla
open Go.RowKit
set_option linter.unusedVariables false

set_option maxHeartbeats 2000000 in
set_option maxRecDepth 100000 in
theorem reverse (B blk off cap n a b : Nat) (d : Array Int) (w0 w : World) (hS : St B blk off n w0 w d) (hB : B ≤ blk) (hab : a < b) (hb : b ≤ n) (hn : n ≤ 4096) :
    Calls Yba.prog 85 #[.slice (some ⟨blk, off, none⟩) n cap, .int .i64 a, .int .i64 b] w fun e w' =>
      e = .returned (.tuple #[]) ∧ ∃ d', Sort.PermIn a b d d' ∧ St B blk off n w0 w' d' := by
  have S0 : Hid (St B blk off n w0 w d) := hS
  clear hS
  go_enter Yba.func85, Yba.ntmps85
  go_wp2
  go_loopw [6, 7] (fun vi vj wr => ∃ (i : Nat) (j : Int) (dk : Array Int), vi = .int .i64 i ∧ vj = .int .i64 j ∧ a ≤ i ∧ i ≤ n ∧ j < b ∧ -1 ≤ j ∧ Hid (St B blk off n w0 wr dk) ∧
      Hid (Sort.PermIn a b d dk)) (fun vi vj _ => n - (RowKit.intOf vi).toNat)
  case atStart => exact ⟨a, b - 1, d, rfl, rfl, by omega, by omega, by omega, by omega, S0, Sort.permIn_refl _ _ _⟩
  case round =>
    obtain ⟨i, j, dk, rfl, rfl, hai, hin, hjb, hj0, SK, HP⟩ := hrel
    by_cases hlt : (i : Int) < j
    · obtain ⟨jn, rfl⟩ : ∃ jn : Nat, j = jn := ⟨j.toNat, by omega⟩
      have hcw := SK.out.cell
      have hfw := SK.out.froz
      have hij : i < jn := by omega
      have hjn : jn < b := by omega
      go_wp2_with fail
      go_region
      go_wp2_with fail
      go_roundw
      case rel =>
        exact ⟨i + 1, (jn : Int) - 1, Sort.swp dk i jn, by simp, rfl, by omega, by omega, by omega, by omega, (SK.out.swp hB (by omega) (by omega) rfl rfl).drew,
          Sort.permIn_trans _ _ _ _ _ HP.out (Sort.swp_permIn dk a b i jn (by omega) (by omega) (by omega) (by omega) (by rw [SK.out.size]; exact hb))⟩
      case measure => simp [RowKit.intOf]; omega
    · go_wp2_with fail
      go_end0
      exact ⟨rfl, dk, HP.out, SK.out⟩

end Go.Proofs.Ybulkebla
