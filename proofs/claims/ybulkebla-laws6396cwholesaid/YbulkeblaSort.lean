import Derived.Test.YbulkeblaPdq
import Derived.Test.YbulkeblaLib
import Derived.Test.YbulkeblaCount
/-! slices.Sort at int32 (26). -/
namespace Go.Proofs.Ybulkebla
open Go.RowKit Go.Lib
set_option linter.unusedVariables false

set_option maxHeartbeats 1000000 in
theorem insEmpty (a : Option Addr) (c : Nat) (w : World) :
    Calls Yba.prog 81 #[.slice a 0 c, .int .i64 0, .int .i64 0] w fun e w' => e = .returned (.tuple #[]) ∧ w' = w := by
  go_enter Yba.func81, Yba.ntmps81
  go_wp2_with fail
  refine wp_loop_rounds 1 ?_
  rw [rounds_succ]
  go_wp2_with fail
  go_end0
  exact ⟨rfl, rfl⟩

set_option maxHeartbeats 1000000 in
set_option maxRecDepth 100000 in
theorem pdqEmpty (a : Option Addr) (c : Nat) (w : World) :
    Calls Yba.prog 43 #[.slice a 0 c, .int .i64 0, .int .i64 0, .int .i64 0] w fun e w' => e = .returned (.tuple #[]) ∧ w' = w := by
  go_enter Yba.func43, Yba.ntmps43
  go_wp2_with fail
  refine wp_loop_rounds 1 ?_
  rw [rounds_succ]
  go_wp2_with fail
  refine (insEmpty a c w).mono ?_
  rintro e w1 ⟨rfl, rfl⟩
  go_wp2_with fail
  (try simp only [Exit.inBlock, Exit.then]); refine bodyPost_ret (results_none rfl _ _ _) rfl ?_
  exact ⟨rfl, rfl⟩

theorem bitLen_zero : Lib.bitLen 0 = 0 := by decide

set_option maxHeartbeats 1000000 in
set_option maxRecDepth 100000 in
theorem sortEmpty (a : Option Addr) (c : Nat) (w : World) :
    Calls Yba.prog 26 #[.slice a 0 c] w fun e w' => e = .returned (.tuple #[]) ∧ w' = w := by
  have hl : ∀ w, Calls Yba.prog 36 #[.int .u64 0] w fun e w' => e = .returned (.int .i64 0) ∧ w' = w := fun w => by
    have := len_small 0 w (by omega)
    rw [bitLen_zero] at this
    exact this
  have HL : Hid (∀ w, Calls Yba.prog 36 #[.int .u64 0] w fun e w' => e = .returned (.int .i64 0) ∧ w' = w) := hl
  clear hl
  go_enter Yba.func26, Yba.ntmps26
  go_wp2_with fail
  refine (HL.out w).mono ?_
  rintro e w1 ⟨rfl, rfl⟩
  go_wp2_with fail
  refine (pdqEmpty a c _).mono ?_
  rintro e w2 ⟨rfl, rfl⟩
  go_wp2_with fail
  go_end0
  exact ⟨rfl, rfl⟩

set_option maxHeartbeats 1000000 in
set_option maxRecDepth 100000 in
theorem sortFull (B blk off cap n : Nat) (d : Array Int) (w0 w : World) (hS : St B blk off n w0 w d) (hB : B ≤ blk) (hn : n ≤ 4096) (hn0 : 0 < n) :
    Calls Yba.prog 26 #[.slice (some ⟨blk, off, none⟩) n cap] w fun e w' => e = .returned (.tuple #[]) ∧ ∃ d', Srt 0 n d' ∧ St B blk off n w0 w' d' := by
  have S0 : Hid (St B blk off n w0 w d) := hS
  clear hS
  have hL : 2 ^ Lib.bitLen n ≤ 2 ^ 13 := Nat.le_trans (two_pow_len hn0) (by omega)
  have hk : Lib.bitLen n ≤ 13 := (Nat.pow_le_pow_iff_right (by decide)).1 hL
  obtain ⟨l, HL⟩ : ∃ l, Hid (Lib.bitLen n = l) := ⟨_, rfl⟩
  have HLen : Hid (∀ w, Calls Yba.prog 36 #[.int .u64 (n : Int)] w fun e w' => e = .returned (.int .i64 (l : Nat)) ∧ w' = w) := fun w => by
    rw [← HL.out]; exact len_small n w hn
  rw [HL.out] at hk
  clear hL
  go_enter Yba.func26, Yba.ntmps26
  go_wp2_with fail
  refine (HLen.out w).mono ?_
  rintro e w1 ⟨rfl, hw1⟩
  subst w1
  go_wp2_with fail
  refine (pdq n B blk off cap n 0 n (l : Int) d w0 w (by omega) S0.out hB (by omega) (Nat.le_refl _) hn (by omega) (by omega) (.inl rfl)).mono ?_
  rintro e w2 ⟨rfl, d', _, h2, S2⟩
  have S2 : Hid _ := S2
  have h2 : Hid _ := h2
  go_wp2_with fail
  go_end0
  exact ⟨rfl, d', h2.out, S2.out⟩

theorem sort (B : Nat) (a : Option Addr) (c n : Nat) (f : Nat → Int) (w : World) (hn : n ≤ 4096) (hB : B ≤ w.heap.size) (hF : Fresh B w a n f) :
    Calls Yba.prog 26 #[.slice a n c] w fun e w' => e = .returned (.tuple #[]) ∧ ∃ f', Asc n f' ∧ IRow w'.heap.size w' a n f' ∧ Below B w w' := by
  rcases Nat.eq_zero_or_pos n with hz | hz
  · subst hz
    refine (sortEmpty a c w).mono ?_
    rintro e w' ⟨rfl, rfl⟩
    exact ⟨rfl, f, fun i j _ h => by omega, .inl rfl, Below.refl _ _⟩
  · rcases hF with h | ⟨g, rfl, hg, hg2, hc, hf⟩
    · omega
    have hS : St B g 0 n w w ((List.range n).map f).toArray := by
      refine ⟨fun j hj => ?_, by simp, Below.refl _ _⟩
      have hj' : j < n := by simpa using hj
      refine ⟨?_, hf _⟩
      rw [hc j hj']
      simp [getElem!_pos, hj']
    refine (sortFull B g 0 c n _ w w hS hg hn hz).mono ?_
    rintro e w' ⟨rfl, d', hs, S⟩
    exact ⟨rfl, fun k => d'[k]!, fun i j hij hj => hs i j (Nat.zero_le _) hij hj, .inr ⟨g, 0, rfl, lt_size S hz, S.cell⟩, S.bel⟩

end Go.Proofs.Ybulkebla
