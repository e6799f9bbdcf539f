import Derived.Test.YbulkeblaASr
/-! slices.Equal at spans (15), at sections (14), at held spans (19), at runs (11): two rows that read alike. -/
namespace Go.Proofs.Ybulkebla
open Go.RowKit Go.Lib
set_option linter.unusedVariables false

/-- A slice of structs of k cells, told by its cells. -/
def KRow (w : World) (k : Nat) (a : Option Addr) (n : Nat) (X : Nat → Nat → Value) : Prop :=
  n = 0 ∨ ∃ b off, a = some ⟨b, off, none⟩ ∧ ∀ t, t < n → ∀ j, j < k → w.cell? ⟨b, off + t * k + j, none⟩ = some (X t j)

set_option maxHeartbeats 2000000 in
set_option maxRecDepth 100000 in
theorem equal15 (n : Nat) (a1 a2 : Option Addr) (c1 c2 : Nat) (f g : Nat → Int) (w : World) (hn : n ≤ 1048576)
    (h1 : KRow w 2 a1 n (fun t j => if j = 0 then .int .i64 (f t) else .int .i64 (g t))) (h2 : KRow w 2 a2 n (fun t j => if j = 0 then .int .i64 (f t) else .int .i64 (g t))) :
    Calls Yba.prog 15 #[.slice a1 n c1, .slice a2 n c2] w fun e w' => e = .returned (.bool true) ∧ ∃ q, w' = w.drewN q := by
  rcases Nat.eq_zero_or_pos n with hz | hz
  · subst hz
    clear h1 h2
    go_enter Yba.func15, Yba.ntmps15
    go_wp2_with fail
    refine wp_loop_rounds 1 ?_
    rw [rounds_succ]
    go_wp2_with fail
    go_ret
    exact ⟨rfl, 0, rfl⟩
  · rcases h1 with h1 | ⟨b1, o1, rfl, h1⟩
    · omega
    rcases h2 with h2 | ⟨b2, o2, rfl, h2⟩
    · omega
    have H1 : Hid (∀ t, t < n → ∀ j, j < 2 → w.cell? ⟨b1, o1 + t * 2 + j, none⟩ = some (if j = 0 then .int .i64 (f t) else .int .i64 (g t))) := h1
    have H2 : Hid (∀ t, t < n → ∀ j, j < 2 → w.cell? ⟨b2, o2 + t * 2 + j, none⟩ = some (if j = 0 then .int .i64 (f t) else .int .i64 (g t))) := h2
    clear h1 h2
    go_enter Yba.func15, Yba.ntmps15
    go_wp2_with fail
    go_loopw [13] (fun vi wr => ∃ (i q : Nat), vi = .int .i64 i ∧ i ≤ n ∧ Hid (wr = w.drewN q)) (fun vi _ => n - (RowKit.intOf vi).toNat)
    case atStart => exact ⟨0, 0, rfl, by omega, rfl⟩
    case round =>
      obtain ⟨i, q, rfl, hi, HW⟩ := hrel
      by_cases hin : i < n
      · skip
        have x0 : wr.cell? ⟨b1, o1 + i * 2, none⟩ = some (.int .i64 (f i)) := by rw [HW.out]; exact H1.out i hin 0 (by omega)
        have x1 : wr.cell? ⟨b1, o1 + i * 2 + 1, none⟩ = some (.int .i64 (g i)) := by rw [HW.out]; exact H1.out i hin 1 (by omega)
        have y0 : wr.cell? ⟨b2, o2 + i * 2, none⟩ = some (.int .i64 (f i)) := by rw [HW.out]; exact H2.out i hin 0 (by omega)
        have y1 : wr.cell? ⟨b2, o2 + i * 2 + 1, none⟩ = some (.int .i64 (g i)) := by rw [HW.out]; exact H2.out i hin 1 (by omega)
        go_wp2_with fail
        go_quiet (fail)
        go_wp2_with fail
        go_roundw
        case rel => exact ⟨i + 1, q + nq, by go_num, by omega, by show _ = _; rw [HW.out]; exact World.drewN_drewN _ _ _⟩
        case measure => simp [RowKit.intOf]; omega
      · go_wp2_with fail
        go_ret
        exact ⟨rfl, q, HW.out⟩

set_option maxHeartbeats 2000000 in
set_option maxRecDepth 100000 in
theorem equal14 (n : Nat) (a1 a2 : Option Addr) (c1 c2 : Nat) (f g : Nat → Int) (w : World) (hn : n ≤ 1048576)
    (h1 : KRow w 2 a1 n (fun t j => if j = 0 then .int .i64 (f t) else .int .i64 (g t))) (h2 : KRow w 2 a2 n (fun t j => if j = 0 then .int .i64 (f t) else .int .i64 (g t))) :
    Calls Yba.prog 14 #[.slice a1 n c1, .slice a2 n c2] w fun e w' => e = .returned (.bool true) ∧ ∃ q, w' = w.drewN q := by
  rcases Nat.eq_zero_or_pos n with hz | hz
  · subst hz
    clear h1 h2
    go_enter Yba.func14, Yba.ntmps14
    go_wp2_with fail
    refine wp_loop_rounds 1 ?_
    rw [rounds_succ]
    go_wp2_with fail
    go_ret
    exact ⟨rfl, 0, rfl⟩
  · rcases h1 with h1 | ⟨b1, o1, rfl, h1⟩
    · omega
    rcases h2 with h2 | ⟨b2, o2, rfl, h2⟩
    · omega
    have H1 : Hid (∀ t, t < n → ∀ j, j < 2 → w.cell? ⟨b1, o1 + t * 2 + j, none⟩ = some (if j = 0 then .int .i64 (f t) else .int .i64 (g t))) := h1
    have H2 : Hid (∀ t, t < n → ∀ j, j < 2 → w.cell? ⟨b2, o2 + t * 2 + j, none⟩ = some (if j = 0 then .int .i64 (f t) else .int .i64 (g t))) := h2
    clear h1 h2
    go_enter Yba.func14, Yba.ntmps14
    go_wp2_with fail
    go_loopw [13] (fun vi wr => ∃ (i q : Nat), vi = .int .i64 i ∧ i ≤ n ∧ Hid (wr = w.drewN q)) (fun vi _ => n - (RowKit.intOf vi).toNat)
    case atStart => exact ⟨0, 0, rfl, by omega, rfl⟩
    case round =>
      obtain ⟨i, q, rfl, hi, HW⟩ := hrel
      by_cases hin : i < n
      · skip
        have x0 : wr.cell? ⟨b1, o1 + i * 2, none⟩ = some (.int .i64 (f i)) := by rw [HW.out]; exact H1.out i hin 0 (by omega)
        have x1 : wr.cell? ⟨b1, o1 + i * 2 + 1, none⟩ = some (.int .i64 (g i)) := by rw [HW.out]; exact H1.out i hin 1 (by omega)
        have y0 : wr.cell? ⟨b2, o2 + i * 2, none⟩ = some (.int .i64 (f i)) := by rw [HW.out]; exact H2.out i hin 0 (by omega)
        have y1 : wr.cell? ⟨b2, o2 + i * 2 + 1, none⟩ = some (.int .i64 (g i)) := by rw [HW.out]; exact H2.out i hin 1 (by omega)
        go_wp2_with fail
        go_quiet (fail)
        go_wp2_with fail
        go_roundw
        case rel => exact ⟨i + 1, q + nq, by go_num, by omega, by show _ = _; rw [HW.out]; exact World.drewN_drewN _ _ _⟩
        case measure => simp [RowKit.intOf]; omega
      · go_wp2_with fail
        go_ret
        exact ⟨rfl, q, HW.out⟩

set_option maxHeartbeats 2000000 in
set_option maxRecDepth 100000 in
theorem equal19 (n : Nat) (a1 a2 : Option Addr) (c1 c2 : Nat) (f g p : Nat → Int) (w : World) (hn : n ≤ 1048576)
    (h1 : KRow w 3 a1 n (fun t j => if j = 0 then .int .i64 (f t) else if j = 1 then .int .i64 (g t) else .int .i32 (p t))) (h2 : KRow w 3 a2 n (fun t j => if j = 0 then .int .i64 (f t) else if j = 1 then .int .i64 (g t) else .int .i32 (p t))) :
    Calls Yba.prog 19 #[.slice a1 n c1, .slice a2 n c2] w fun e w' => e = .returned (.bool true) ∧ ∃ q, w' = w.drewN q := by
  rcases Nat.eq_zero_or_pos n with hz | hz
  · subst hz
    clear h1 h2
    go_enter Yba.func19, Yba.ntmps19
    go_wp2_with fail
    refine wp_loop_rounds 1 ?_
    rw [rounds_succ]
    go_wp2_with fail
    go_ret
    exact ⟨rfl, 0, rfl⟩
  · rcases h1 with h1 | ⟨b1, o1, rfl, h1⟩
    · omega
    rcases h2 with h2 | ⟨b2, o2, rfl, h2⟩
    · omega
    have H1 : Hid (∀ t, t < n → ∀ j, j < 3 → w.cell? ⟨b1, o1 + t * 3 + j, none⟩ = some (if j = 0 then .int .i64 (f t) else if j = 1 then .int .i64 (g t) else .int .i32 (p t))) := h1
    have H2 : Hid (∀ t, t < n → ∀ j, j < 3 → w.cell? ⟨b2, o2 + t * 3 + j, none⟩ = some (if j = 0 then .int .i64 (f t) else if j = 1 then .int .i64 (g t) else .int .i32 (p t))) := h2
    clear h1 h2
    go_enter Yba.func19, Yba.ntmps19
    go_wp2_with fail
    go_loopw [13] (fun vi wr => ∃ (i q : Nat), vi = .int .i64 i ∧ i ≤ n ∧ Hid (wr = w.drewN q)) (fun vi _ => n - (RowKit.intOf vi).toNat)
    case atStart => exact ⟨0, 0, rfl, by omega, rfl⟩
    case round =>
      obtain ⟨i, q, rfl, hi, HW⟩ := hrel
      by_cases hin : i < n
      · skip
        have x0 : wr.cell? ⟨b1, o1 + i * 3, none⟩ = some (.int .i64 (f i)) := by rw [HW.out]; exact H1.out i hin 0 (by omega)
        have x1 : wr.cell? ⟨b1, o1 + i * 3 + 1, none⟩ = some (.int .i64 (g i)) := by rw [HW.out]; exact H1.out i hin 1 (by omega)
        have x2 : wr.cell? ⟨b1, o1 + i * 3 + 2, none⟩ = some (.int .i32 (p i)) := by rw [HW.out]; exact H1.out i hin 2 (by omega)
        have y0 : wr.cell? ⟨b2, o2 + i * 3, none⟩ = some (.int .i64 (f i)) := by rw [HW.out]; exact H2.out i hin 0 (by omega)
        have y1 : wr.cell? ⟨b2, o2 + i * 3 + 1, none⟩ = some (.int .i64 (g i)) := by rw [HW.out]; exact H2.out i hin 1 (by omega)
        have y2 : wr.cell? ⟨b2, o2 + i * 3 + 2, none⟩ = some (.int .i32 (p i)) := by rw [HW.out]; exact H2.out i hin 2 (by omega)
        go_wp2_with fail
        go_quiet (fail)
        go_wp2_with fail
        go_roundw
        case rel => exact ⟨i + 1, q + nq, by go_num, by omega, by show _ = _; rw [HW.out]; exact World.drewN_drewN _ _ _⟩
        case measure => simp [RowKit.intOf]; omega
      · go_wp2_with fail
        go_ret
        exact ⟨rfl, q, HW.out⟩

set_option maxHeartbeats 2000000 in
set_option maxRecDepth 100000 in
theorem equal11 (n : Nat) (a1 a2 : Option Addr) (c1 c2 : Nat) (s : Nat → ByteArray) (f g p : Nat → Int) (w : World) (hn : n ≤ 1048576)
    (h1 : KRow w 4 a1 n (fun t j => if j = 0 then .string (s t) else if j = 1 then .int .i64 (f t) else if j = 2 then .int .i64 (g t) else .int .i64 (p t))) (h2 : KRow w 4 a2 n (fun t j => if j = 0 then .string (s t) else if j = 1 then .int .i64 (f t) else if j = 2 then .int .i64 (g t) else .int .i64 (p t))) :
    Calls Yba.prog 11 #[.slice a1 n c1, .slice a2 n c2] w fun e w' => e = .returned (.bool true) ∧ ∃ q, w' = w.drewN q := by
  rcases Nat.eq_zero_or_pos n with hz | hz
  · subst hz
    clear h1 h2
    go_enter Yba.func11, Yba.ntmps11
    go_wp2_with fail
    refine wp_loop_rounds 1 ?_
    rw [rounds_succ]
    go_wp2_with fail
    go_ret
    exact ⟨rfl, 0, rfl⟩
  · rcases h1 with h1 | ⟨b1, o1, rfl, h1⟩
    · omega
    rcases h2 with h2 | ⟨b2, o2, rfl, h2⟩
    · omega
    have H1 : Hid (∀ t, t < n → ∀ j, j < 4 → w.cell? ⟨b1, o1 + t * 4 + j, none⟩ = some (if j = 0 then .string (s t) else if j = 1 then .int .i64 (f t) else if j = 2 then .int .i64 (g t) else .int .i64 (p t))) := h1
    have H2 : Hid (∀ t, t < n → ∀ j, j < 4 → w.cell? ⟨b2, o2 + t * 4 + j, none⟩ = some (if j = 0 then .string (s t) else if j = 1 then .int .i64 (f t) else if j = 2 then .int .i64 (g t) else .int .i64 (p t))) := h2
    clear h1 h2
    go_enter Yba.func11, Yba.ntmps11
    go_wp2_with fail
    go_loopw [13] (fun vi wr => ∃ (i q : Nat), vi = .int .i64 i ∧ i ≤ n ∧ Hid (wr = w.drewN q)) (fun vi _ => n - (RowKit.intOf vi).toNat)
    case atStart => exact ⟨0, 0, rfl, by omega, rfl⟩
    case round =>
      obtain ⟨i, q, rfl, hi, HW⟩ := hrel
      by_cases hin : i < n
      · skip
        have x0 : wr.cell? ⟨b1, o1 + i * 4, none⟩ = some (.string (s i)) := by rw [HW.out]; exact H1.out i hin 0 (by omega)
        have x1 : wr.cell? ⟨b1, o1 + i * 4 + 1, none⟩ = some (.int .i64 (f i)) := by rw [HW.out]; exact H1.out i hin 1 (by omega)
        have x2 : wr.cell? ⟨b1, o1 + i * 4 + 2, none⟩ = some (.int .i64 (g i)) := by rw [HW.out]; exact H1.out i hin 2 (by omega)
        have x3 : wr.cell? ⟨b1, o1 + i * 4 + 3, none⟩ = some (.int .i64 (p i)) := by rw [HW.out]; exact H1.out i hin 3 (by omega)
        have y0 : wr.cell? ⟨b2, o2 + i * 4, none⟩ = some (.string (s i)) := by rw [HW.out]; exact H2.out i hin 0 (by omega)
        have y1 : wr.cell? ⟨b2, o2 + i * 4 + 1, none⟩ = some (.int .i64 (f i)) := by rw [HW.out]; exact H2.out i hin 1 (by omega)
        have y2 : wr.cell? ⟨b2, o2 + i * 4 + 2, none⟩ = some (.int .i64 (g i)) := by rw [HW.out]; exact H2.out i hin 2 (by omega)
        have y3 : wr.cell? ⟨b2, o2 + i * 4 + 3, none⟩ = some (.int .i64 (p i)) := by rw [HW.out]; exact H2.out i hin 3 (by omega)
        go_wp2_with fail
        go_quiet (fail)
        go_wp2_with fail
        go_roundw
        case rel => exact ⟨i + 1, q + nq, by go_num, by omega, by show _ = _; rw [HW.out]; exact World.drewN_drewN _ _ _⟩
        case measure => simp [RowKit.intOf]; omega
      · go_wp2_with fail
        go_ret
        exact ⟨rfl, q, HW.out⟩

end Go.Proofs.Ybulkebla
