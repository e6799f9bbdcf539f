import Derived.Test.YbulkeblaKit
import Derived.Lib.SliceRun
import Derived.Laws.BytesArg
import Derived.Laws.OwnMore
/-! slices.Clone (25), slices.Equal (29) at int32; zzs6396cin (28); countReached (27). -/
namespace Go.Proofs.Ybulkebla
open Go.RowKit Go.Lib
set_option linter.unusedVariables false

/-- A slice of 32-bit numbers: nothing, or a row below block B. -/
def IRow (B : Nat) (w : World) (a : Option Addr) (n : Nat) (f : Nat → Int) : Prop :=
  n = 0 ∨ ∃ b off, a = some ⟨b, off, none⟩ ∧ b < B ∧ ∀ k, k < n → w.cell? ⟨b, off + k, none⟩ = some (.int .i32 (f k))

theorem IRow.below {B : Nat} {w w' : World} {a : Option Addr} {n : Nat} {f : Nat → Int} (h : IRow B w a n f) (k : Below B w w') : IRow B w' a n f := by
  rcases h with h | ⟨b, off, h1, h2, h3⟩
  · exact .inl h
  · exact .inr ⟨b, off, h1, h2, fun t ht => by rw [k.cell h2]; exact h3 t ht⟩
theorem IRow.up {B B' : Nat} {w : World} {a : Option Addr} {n : Nat} {f : Nat → Int} (h : IRow B w a n f) (k : B ≤ B') : IRow B' w a n f := by
  rcases h with h | ⟨b, off, h1, h2, h3⟩
  · exact .inl h
  · exact .inr ⟨b, off, h1, by omega, h3⟩

def il (n : Nat) (f : Nat → Int) : List Value := (List.range n).map fun k => Value.int .i32 (f k)
theorem il_len (n : Nat) (f : Nat → Int) : (il n f).length = n := by simp [il]
theorem il_at {n : Nat} {f : Nat → Int} {j : Nat} {u : Value} (h : (il n f)[j]? = some u) : j < n ∧ u = Value.int .i32 (f j) := by
  have hj : j < n := by have := (List.getElem?_eq_some_iff.1 h).1; simpa [il_len] using this
  refine ⟨hj, ?_⟩
  simp [il, hj] at h
  exact h.symm
theorem il_get {n : Nat} {f : Nat → Int} {j : Nat} (h : j < n) : (il n f)[j]? = some (Value.int .i32 (f j)) := by simp [il, h]

theorem info21 : Yba.prog.info? 21 = some Yba.t21 := by kernel_rfl

/-- What a clone hands back: an own row, above block B0, none of it frozen; or nothing. -/
def Fresh (B0 : Nat) (w : World) (a : Option Addr) (n : Nat) (f : Nat → Int) : Prop :=
  n = 0 ∨ ∃ g, a = some ⟨g, 0, none⟩ ∧ B0 ≤ g ∧ g < w.heap.size ∧ (∀ k, k < n → w.cell? ⟨g, 0 + k, none⟩ = some (.int .i32 (f k))) ∧ ∀ k, w.frozen? ⟨g, k, none⟩ = false

theorem frozen_lit {w : World} {g k : Nat} {c : Array Value} {e : TypeId} (h : w.heap[g]? = some (.cells c e)) : w.frozen? ⟨g, k, none⟩ = false := by
  simp [World.frozen?, h]

set_option maxHeartbeats 1000000 in
set_option maxRecDepth 100000 in
theorem clone_row (ad : Addr) (n c : Nat) (f : Nat → Int) (w : World) (hn : n ≤ 4096) (hc : ∀ j, j < n → w.cell? (ad.add j) = some (.int .i32 (f j))) :
    Calls Yba.prog 25 #[.slice (some ad) n c] w fun e w' => ∃ v', e = .returned v' ∧ w'.ownsRow w.heap.size 21 1 v' n (il n f) ∧ Below w.heap.size w w' := by
  have q66 : ∀ (w : World) (a : Option Addr) (n c n' c' : Nat), (binOp .eql 66 (.slice a n c) (.slice none n' c')).run Yba.prog w = .ok (.bool a.isNone) w := fun w a n c n' c' => Lib.run_eql_slice_nil w _ _ a n c n' c' Yba.underlying66
  have A : Hid (∀ j, j < n → w.cell? (ad.add j) = some (.int .i32 (f j))) := hc
  clear hc
  go_enter Yba.func25, Yba.ntmps25
  go_wp2_with (at_builtin; refine wpList_append_own _ rfl _ _ 66 rfl w.heap.size 21 Yba.t21 (.int .i32 0) 1 4 Yba.underlying66 info21 rfl rfl rfl rfl (by decide) _ _ _ rfl (World.ownsRow_made w #[] 0 (Nat.le_refl _) (Nat.zero_le _) rfl) ad n c (il n f) rfl ?qc1 ?qc2 ?qc3 ?qc4 ?qc5 ?qc6 ?_)
  case qc1 => simp [il_len]
  case qc2 =>
    intro j u hj
    obtain ⟨hjn, rfl⟩ := il_at hj
    exact Lib.cell?_alloc_some _ (A.out j hjn)
  case qc3 => intro u hu; obtain ⟨x, _, rfl⟩ := List.mem_map.1 hu; rfl
  case qc4 => unfold maxLen; omega
  case qc5 => omega
  case qc6 => simp
  intro v' w1 hown hgrow hnil
  go_wp2
  go_ret
  refine ⟨v', rfl, by simpa using hown, ?_⟩
  exact ((Below.refl _ w).alloc (Nat.le_refl _) _).grown hgrow (by simp) (by intro k hk; simp [Value.ownBlock] at hk; omega)

set_option maxHeartbeats 400000 in
theorem clone_nil (n c : Nat) (w : World) :
    Calls Yba.prog 25 #[.slice none n c] w fun e w' => e = .returned (.slice none 0 0) ∧ w' = w := by
  have q66 : ∀ (w : World) (a : Option Addr) (n c n' c' : Nat), (binOp .eql 66 (.slice a n c) (.slice none n' c')).run Yba.prog w = .ok (.bool a.isNone) w := fun w a n c n' c' => Lib.run_eql_slice_nil w _ _ a n c n' c' Yba.underlying66
  go_enter Yba.func25, Yba.ntmps25
  go_wp2
  go_ret
  exact ⟨rfl, rfl⟩

theorem clone (a : Option Addr) (n c : Nat) (f : Nat → Int) (w : World) (hn : n ≤ 4096) (hc : n = 0 ∨ ∃ ad : Addr, a = some ad ∧ ∀ j, j < n → w.cell? (ad.add j) = some (.int .i32 (f j))) :
    Calls Yba.prog 25 #[.slice a n c] w fun e w' => ∃ a' c', e = .returned (.slice a' n c') ∧ n ≤ c' ∧ Fresh w.heap.size w' a' n f ∧ Below w.heap.size w w' := by
  have key : ∀ ad : Addr, a = some ad → (∀ j, j < n → w.cell? (ad.add j) = some (.int .i32 (f j))) → Calls Yba.prog 25 #[.slice a n c] w fun e w' => ∃ a' c', e = .returned (.slice a' n c') ∧ n ≤ c' ∧ Fresh w.heap.size w' a' n f ∧ Below w.heap.size w w' := by
    rintro ad rfl h
    refine (clone_row ad n c f w hn h).mono ?_
    rintro e w' ⟨v', rfl, hown, hb⟩
    have h' := hown
    obtain ⟨h1, h2⟩ := hown
    rcases h2 with ⟨rfl, rfl⟩ | ⟨g, cap, cur, rfl, hg, hh, hn2, hm, hcur, ht⟩
    · exact ⟨none, 0, rfl, Nat.le_refl _, .inl rfl, hb⟩
    · refine ⟨some ⟨g, 0, none⟩, cap, rfl, hn2, .inr ⟨g, rfl, hg, (Array.getElem?_eq_some_iff.1 hh).1, fun j hj => ?_, fun k => ?_⟩, hb⟩
      · rw [Nat.zero_add, h'.cellAt j (by omega), il_get hj]
      · exact frozen_lit hh
  cases a with
  | none =>
    rcases hc with rfl | ⟨ad, h, _⟩
    · refine (clone_nil 0 c w).mono ?_
      rintro e w' ⟨rfl, rfl⟩
      exact ⟨none, 0, rfl, Nat.le_refl _, .inl rfl, Below.refl _ _⟩
    · cases h
  | some ad =>
    refine key ad rfl ?_
    rcases hc with rfl | ⟨ad', h, h2⟩
    · intro j hj; omega
    · cases h; exact h2

set_option maxHeartbeats 2000000 in
set_option maxRecDepth 100000 in
theorem equal (B n : Nat) (a1 a2 : Option Addr) (c1 c2 : Nat) (f : Nat → Int) (w : World) (hn : n ≤ 4096) (h1 : IRow B w a1 n f) (h2 : IRow B w a2 n f) :
    Calls Yba.prog 29 #[.slice a1 n c1, .slice a2 n c2] w fun e w' => e = .returned (.bool true) ∧ ∃ q, w' = w.drewN q := by
  rcases Nat.eq_zero_or_pos n with hz | hz
  · subst hz
    clear h1 h2
    go_enter Yba.func29, Yba.ntmps29
    go_wp2_with fail
    refine wp_loop_rounds 1 ?_
    rw [rounds_succ]
    go_wp2_with fail
    go_ret
    exact ⟨rfl, 0, rfl⟩
  · rcases h1 with h1 | ⟨b1, o1, rfl, l1, h1⟩
    · omega
    rcases h2 with h2 | ⟨b2, o2, rfl, l2, h2⟩
    · omega
    have H1 : Hid (∀ k, k < n → w.cell? ⟨b1, o1 + k, none⟩ = some (.int .i32 (f k))) := h1
    have H2 : Hid (∀ k, k < n → w.cell? ⟨b2, o2 + k, none⟩ = some (.int .i32 (f k))) := h2
    clear h1 h2
    go_enter Yba.func29, Yba.ntmps29
    go_wp2_with fail
    go_loopw [13] (fun vi wr => ∃ (i q : Nat), vi = .int .i64 i ∧ i ≤ n ∧ Hid (wr = w.drewN q)) (fun vi _ => n - (RowKit.intOf vi).toNat)
    case atStart => exact ⟨0, 0, rfl, by omega, rfl⟩
    case round =>
      obtain ⟨i, q, rfl, hi, HW⟩ := hrel
      have hc1 : ∀ k, k < n → wr.cell? ⟨b1, o1 + k, none⟩ = some (.int .i32 (f k)) := by rw [HW.out]; exact H1.out
      have hc2 : ∀ k, k < n → wr.cell? ⟨b2, o2 + k, none⟩ = some (.int .i32 (f k)) := by rw [HW.out]; exact H2.out
      by_cases hin : i < n
      · go_wp2_with fail
        go_quiet (fail)
        go_wp2_with fail
        go_roundw
        case rel => exact ⟨i + 1, q + nq, by go_num, by omega, by show _ = _; rw [HW.out]; exact World.drewN_drewN _ _ _⟩
        case measure => simp [RowKit.intOf]; omega
      · go_wp2_with fail
        go_ret
        exact ⟨rfl, q, HW.out⟩

def mem (n : Nat) (f : Nat → Int) (x : Int) : Bool := (List.range n).any fun k => f k == x
theorem mem_true {n : Nat} {f : Nat → Int} {x : Int} {k : Nat} (hk : k < n) (h : f k = x) : mem n f x = true := by
  simp only [mem, List.any_eq_true, List.mem_range, beq_iff_eq]; exact ⟨k, hk, h⟩
theorem mem_false {n : Nat} {f : Nat → Int} {x : Int} (h : ∀ k, k < n → f k ≠ x) : mem n f x = false := by
  simp only [mem, List.any_eq_false, List.mem_range, beq_iff_eq]; exact h

set_option maxHeartbeats 2000000 in
set_option maxRecDepth 100000 in
theorem isIn (B n : Nat) (a : Option Addr) (c : Nat) (f : Nat → Int) (x : Int) (w : World) (hn : n ≤ 4096) (h : IRow B w a n f) :
    Calls Yba.prog 28 #[.slice a n c, .int .i32 x] w fun e w' => e = .returned (.bool (mem n f x)) ∧ w' = w := by
  rcases Nat.eq_zero_or_pos n with hz | hz
  · subst hz
    clear h
    go_enter Yba.func28, Yba.ntmps28
    go_wp2_with fail
    refine wp_loop_rounds 1 ?_
    rw [rounds_succ]
    go_wp2_with fail
    go_ret
    exact ⟨by rw [mem_false (fun k hk => absurd hk (Nat.not_lt_zero k))]; rfl, rfl⟩
  · rcases h with h | ⟨b, o, rfl, l, h⟩
    · omega
    go_enter Yba.func28, Yba.ntmps28
    go_wp2_with fail
    go_loop [5] (fun vi => ∃ (i : Nat), vi = .int .i64 i ∧ i ≤ n ∧ Hid (∀ k, k < i → f k ≠ x)) (fun vi => n - (RowKit.intOf vi).toNat)
    case atStart => exact ⟨0, rfl, by omega, fun k hk => by omega⟩
    case round =>
      obtain ⟨i, rfl, hi, HF⟩ := hrel
      by_cases hin : i < n
      · by_cases hfx : f i = x
        · have HX : Hid (f i = x) := hfx
          have hb : (f i == x) = true := by simp [hfx]
          go_wp2_with fail
          go_ret
          exact ⟨by rw [mem_true hin HX.out]; rfl, rfl⟩
        · have hb : (f i == x) = false := by simp [hfx]
          have HX : Hid (f i ≠ x) := hfx
          go_wp2_with fail
          go_round
          case rel => exact ⟨i + 1, by go_num, by omega, fun k hk => (Nat.lt_or_ge k i).elim (HF.out k) (fun h3 => (show k = i by omega) ▸ HX.out)⟩
          case measure => simp [RowKit.intOf]; omega
      · go_wp2_with fail
        go_ret
        exact ⟨by rw [mem_false (fun k hk => HF.out k (by omega))]; rfl, rfl⟩

end Go.Proofs.Ybulkebla
