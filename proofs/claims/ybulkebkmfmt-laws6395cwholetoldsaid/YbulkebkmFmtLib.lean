import Derived.Test.YbulkebkmFmtHang
import Derived.Lib.Walk
import Derived.Lib.SliceRun
import Derived.Laws.BytesArg
import Derived.Deep.QuietTactic
import Derived.BigQuiet
/-! slices.Clone at bytes (4) and strings (5); bytes.Equal (9); slices.Equal at strings (10). -/
namespace Go.Proofs.YbulkebkmFmt
open Go.RowKit Go.Lib
set_option linter.unusedVariables false

def bl (n : Nat) (f : Nat → Int) : List Value := (List.range n).map fun k => Value.int .u8 (f k)
def sl (n : Nat) (g : Nat → ByteArray) : List Value := (List.range n).map fun k => Value.string (g k)
theorem bl_len (n : Nat) (f : Nat → Int) : (bl n f).length = n := by simp [bl]
theorem sl_len (n : Nat) (g : Nat → ByteArray) : (sl n g).length = n := by simp [sl]
theorem bl_at {n : Nat} {f : Nat → Int} {j : Nat} {u : Value} (h : (bl n f)[j]? = some u) : j < n ∧ u = Value.int .u8 (f j) := by
  have hj : j < n := by have := (List.getElem?_eq_some_iff.1 h).1; simpa [bl_len] using this
  refine ⟨hj, ?_⟩
  simp [bl, hj] at h
  exact h.symm
theorem sl_at {n : Nat} {f : Nat → ByteArray} {j : Nat} {u : Value} (h : (sl n f)[j]? = some u) : j < n ∧ u = Value.string (f j) := by
  have hj : j < n := by have := (List.getElem?_eq_some_iff.1 h).1; simpa [sl_len] using this
  refine ⟨hj, ?_⟩
  simp [sl, hj] at h
  exact h.symm
theorem bl_get {n : Nat} {f : Nat → Int} {j : Nat} (h : j < n) : (bl n f)[j]? = some (Value.int .u8 (f j)) := by simp [bl, h]
theorem sl_get {n : Nat} {f : Nat → ByteArray} {j : Nat} (h : j < n) : (sl n f)[j]? = some (Value.string (f j)) := by simp [sl, h]

theorem info5 : Ybaf.prog.info? 5 = some Ybaf.t5 := by kernel_rfl
theorem info9 : Ybaf.prog.info? 9 = some Ybaf.t9 := by kernel_rfl

theorem owns_lt {w : World} {base : Nat} {e : TypeId} {v : Value} {n : Nat} {xs : List Value} (h : w.ownsRow base e 1 v n xs) :
    ∃ a' c', v = .slice a' n c' ∧ n ≤ c' ∧ (n = 0 ∨ ∃ g, a' = some ⟨g, 0, none⟩ ∧ base ≤ g ∧ g < w.heap.size ∧ ∀ j, j < n → w.cell? ⟨g, 0 + j, none⟩ = xs[j]?) := by
  have h' := h
  obtain ⟨h1, h2⟩ := h
  rcases h2 with ⟨rfl, rfl⟩ | ⟨g, cap, cur, rfl, hg, hh, hn, hm, hcur, ht⟩
  · exact ⟨none, 0, rfl, Nat.le_refl _, .inl rfl⟩
  · refine ⟨some ⟨g, 0, none⟩, cap, rfl, hn, .inr ⟨g, rfl, hg, (Array.getElem?_eq_some_iff.1 hh).1, fun j hj => ?_⟩⟩
    rw [Nat.zero_add]
    exact h'.cellAt j (by omega)

set_option maxHeartbeats 1000000 in
set_option maxRecDepth 100000 in
theorem clone4_row (ad : Addr) (n c : Nat) (f : Nat → Int) (w : World) (hn : n ≤ 1048576) (hc : ∀ j, j < n → w.cell? (ad.add j) = some (.int .u8 (f j))) :
    Calls Ybaf.prog 4 #[.slice (some ad) n c] w fun e w' => ∃ v', e = .returned v' ∧ w'.ownsRow w.heap.size 5 1 v' n (bl n f) ∧ Below w.heap.size w w' := by
  have q22 : ∀ (w : World) (a : Option Addr) (n c n' c' : Nat), (binOp .eql 22 (.slice a n c) (.slice none n' c')).run Ybaf.prog w = .ok (.bool a.isNone) w := fun w a n c n' c' => Lib.run_eql_slice_nil w _ _ a n c n' c' Ybaf.underlying22
  have A : Hid (∀ j, j < n → w.cell? (ad.add j) = some (.int .u8 (f j))) := hc
  clear hc
  go_enter Ybaf.func4, Ybaf.ntmps4
  go_wp2_with (at_builtin; refine wpList_append_own _ rfl _ _ 22 rfl w.heap.size 5 Ybaf.t5 (.int .u8 0) 1 1 Ybaf.underlying22 info5 rfl rfl rfl rfl (by decide) _ _ _ rfl (World.ownsRow_made w #[] 0 (Nat.le_refl _) (Nat.zero_le _) rfl) ad n c (bl n f) rfl ?qc1 ?qc2 ?qc3 ?qc4 ?qc5 ?qc6 ?_)
  case qc1 => simp [bl_len]
  case qc2 =>
    intro j u hj
    obtain ⟨hjn, rfl⟩ := bl_at hj
    exact Lib.cell?_alloc_some _ (A.out j hjn)
  case qc3 => intro u hu; obtain ⟨x, _, rfl⟩ := List.mem_map.1 hu; rfl
  case qc4 => unfold maxLen; omega
  case qc5 => omega
  case qc6 => simp
  intro v' w1 hown hgrow hnil
  go_wp2
  go_ret
  refine ⟨v', rfl, by simpa using hown, ?_⟩
  exact ((Below.refl _ w).alloc (Nat.le_refl _) _).grown hgrow (by simp) (by intro k hk; simp [Value.ownBlock] at hk; omega)

set_option maxHeartbeats 400000 in
theorem clone4_nil (n c : Nat) (w : World) :
    Calls Ybaf.prog 4 #[.slice none n c] w fun e w' => e = .returned (.slice none 0 0) ∧ w' = w := by
  have q22 : ∀ (w : World) (a : Option Addr) (n c n' c' : Nat), (binOp .eql 22 (.slice a n c) (.slice none n' c')).run Ybaf.prog w = .ok (.bool a.isNone) w := fun w a n c n' c' => Lib.run_eql_slice_nil w _ _ a n c n' c' Ybaf.underlying22
  go_enter Ybaf.func4, Ybaf.ntmps4
  go_wp2
  go_ret
  exact ⟨rfl, rfl⟩

theorem clone4_any (B : Nat) (a : Option Addr) (n c : Nat) (f : Nat → Int) (w : World) (hn : n ≤ 1048576) (hc : BRow B w a n f) :
    Calls Ybaf.prog 4 #[.slice a n c] w fun e w' => ∃ a' c', e = .returned (.slice a' n c') ∧ n ≤ c' ∧ BRow w'.heap.size w' a' n f ∧ Below w.heap.size w w' := by
  have key : ∀ ad : Addr, a = some ad → (∀ j, j < n → w.cell? (ad.add j) = some (.int .u8 (f j))) → Calls Ybaf.prog 4 #[.slice a n c] w fun e w' => ∃ a' c', e = .returned (.slice a' n c') ∧ n ≤ c' ∧ BRow w'.heap.size w' a' n f ∧ Below w.heap.size w w' := by
    rintro ad rfl h
    refine (clone4_row ad n c f w hn h).mono ?_
    rintro e w' ⟨v', rfl, hown, hb⟩
    obtain ⟨a', c', rfl, hle, h⟩ := owns_lt hown
    refine ⟨a', c', rfl, hle, ?_, hb⟩
    rcases h with h | ⟨g, rfl, hg, hg2, h⟩
    · exact .inl h
    · exact .inr ⟨g, 0, rfl, hg2, fun k hk => by rw [h k hk, bl_get hk]⟩
  cases a with
  | none =>
    rcases hc with rfl | ⟨b, off, h, _⟩
    · refine (clone4_nil 0 c w).mono ?_
      rintro e w' ⟨rfl, rfl⟩
      exact ⟨none, 0, rfl, Nat.le_refl _, .inl rfl, Below.refl _ _⟩
    · cases h
  | some ad =>
    refine key ad rfl ?_
    rcases hc with rfl | ⟨b, off, h, _, h2⟩
    · intro j hj; omega
    · cases h; intro j hj; rw [Addr.add_lit]; exact h2 j hj

set_option maxHeartbeats 1000000 in
set_option maxRecDepth 100000 in
theorem clone5_row (ad : Addr) (n c : Nat) (f : Nat → ByteArray) (w : World) (hn : n ≤ 1048576) (hc : ∀ j, j < n → w.cell? (ad.add j) = some (.string (f j))) :
    Calls Ybaf.prog 5 #[.slice (some ad) n c] w fun e w' => ∃ v', e = .returned v' ∧ w'.ownsRow w.heap.size 9 1 v' n (sl n f) ∧ Below w.heap.size w w' := by
  have q22 : ∀ (w : World) (a : Option Addr) (n c n' c' : Nat), (binOp .eql 23 (.slice a n c) (.slice none n' c')).run Ybaf.prog w = .ok (.bool a.isNone) w := fun w a n c n' c' => Lib.run_eql_slice_nil w _ _ a n c n' c' Ybaf.underlying23
  have A : Hid (∀ j, j < n → w.cell? (ad.add j) = some (.string (f j))) := hc
  clear hc
  go_enter Ybaf.func5, Ybaf.ntmps5
  go_wp2_with (at_builtin; refine wpList_append_own _ rfl _ _ 23 rfl w.heap.size 9 Ybaf.t9 (.string { data := #[] }) 1 16 Ybaf.underlying23 info9 rfl rfl rfl rfl (by decide) _ _ _ rfl (World.ownsRow_made w #[] 0 (Nat.le_refl _) (Nat.zero_le _) rfl) ad n c (sl n f) rfl ?qc1 ?qc2 ?qc3 ?qc4 ?qc5 ?qc6 ?_)
  case qc1 => simp [sl_len]
  case qc2 =>
    intro j u hj
    obtain ⟨hjn, rfl⟩ := sl_at hj
    exact Lib.cell?_alloc_some _ (A.out j hjn)
  case qc3 => intro u hu; obtain ⟨x, _, rfl⟩ := List.mem_map.1 hu; rfl
  case qc4 => unfold maxLen; omega
  case qc5 => omega
  case qc6 => simp
  intro v' w1 hown hgrow hnil
  go_wp2
  go_ret
  refine ⟨v', rfl, by simpa using hown, ?_⟩
  exact ((Below.refl _ w).alloc (Nat.le_refl _) _).grown hgrow (by simp) (by intro k hk; simp [Value.ownBlock] at hk; omega)

set_option maxHeartbeats 400000 in
theorem clone5_nil (n c : Nat) (w : World) :
    Calls Ybaf.prog 5 #[.slice none n c] w fun e w' => e = .returned (.slice none 0 0) ∧ w' = w := by
  have q22 : ∀ (w : World) (a : Option Addr) (n c n' c' : Nat), (binOp .eql 23 (.slice a n c) (.slice none n' c')).run Ybaf.prog w = .ok (.bool a.isNone) w := fun w a n c n' c' => Lib.run_eql_slice_nil w _ _ a n c n' c' Ybaf.underlying23
  go_enter Ybaf.func5, Ybaf.ntmps5
  go_wp2
  go_ret
  exact ⟨rfl, rfl⟩

theorem clone5_any (B : Nat) (a : Option Addr) (n c : Nat) (f : Nat → ByteArray) (w : World) (hn : n ≤ 1048576) (hc : SRow B w a n f) :
    Calls Ybaf.prog 5 #[.slice a n c] w fun e w' => ∃ a' c', e = .returned (.slice a' n c') ∧ n ≤ c' ∧ SRow w'.heap.size w' a' n f ∧ Below w.heap.size w w' := by
  have key : ∀ ad : Addr, a = some ad → (∀ j, j < n → w.cell? (ad.add j) = some (.string (f j))) → Calls Ybaf.prog 5 #[.slice a n c] w fun e w' => ∃ a' c', e = .returned (.slice a' n c') ∧ n ≤ c' ∧ SRow w'.heap.size w' a' n f ∧ Below w.heap.size w w' := by
    rintro ad rfl h
    refine (clone5_row ad n c f w hn h).mono ?_
    rintro e w' ⟨v', rfl, hown, hb⟩
    obtain ⟨a', c', rfl, hle, h⟩ := owns_lt hown
    refine ⟨a', c', rfl, hle, ?_, hb⟩
    rcases h with h | ⟨g, rfl, hg, hg2, h⟩
    · exact .inl h
    · exact .inr ⟨g, 0, rfl, hg2, fun k hk => by rw [h k hk, sl_get hk]⟩
  cases a with
  | none =>
    rcases hc with rfl | ⟨b, off, h, _⟩
    · refine (clone5_nil 0 c w).mono ?_
      rintro e w' ⟨rfl, rfl⟩
      exact ⟨none, 0, rfl, Nat.le_refl _, .inl rfl, Below.refl _ _⟩
    · cases h
  | some ad =>
    refine key ad rfl ?_
    rcases hc with rfl | ⟨b, off, h, _, h2⟩
    · intro j hj; omega
    · cases h; intro j hj; rw [Addr.add_lit]; exact h2 j hj

theorem run_conv {B : Nat} {w : World} {a : Option Addr} {n : Nat} {f : Nat → Int} (h : BRow B w a n f) (c : Nat) : (convert 22 9 (.slice a n c)).run Ybaf.prog w = .ok (.string (strOfNums ((List.range n).map f))) w := by
  rcases h with rfl | ⟨b, off, rfl, _, h⟩
  · rw [run_convert_bytes_string w 22 9 5 _ 0 c Ybaf.underlying22 Ybaf.underlying5 Ybaf.underlying9]
    cases a <;> simp [Conv.bytesToString, loadCells] <;> rfl
  · refine run_convert_bytes_arg (P := Ybaf.prog) w 22 5 Ybaf.underlying22 Ybaf.underlying5 b off n c _ (by simp) ?_ 9 Ybaf.underlying9
    intro i hi
    rw [h i hi]; simp [hi]

set_option maxHeartbeats 400000 in
theorem beq_any (B : Nat) (a a' : Option Addr) (n c c' : Nat) (f : Nat → Int) (w : World) (h : BRow B w a n f) (h' : BRow B w a' n f) :
    Calls Ybaf.prog 9 #[.slice a n c, .slice a' n c'] w fun e w' => e = .returned (.bool true) ∧ w' = w := by
  have k1 := run_conv h c
  have k2 := run_conv h' c'
  clear h h'
  go_enter Ybaf.func9, Ybaf.ntmps9
  go_wp2
  go_ret
  exact ⟨rfl, rfl⟩

set_option maxHeartbeats 400000 in
theorem seq_row (b o b' o' n c c' : Nat) (g : Nat → ByteArray) (w : World) (hn : n ≤ 1048576) (h : ∀ k, k < n → w.cell? ⟨b, o + k, none⟩ = some (.string (g k))) (h' : ∀ k, k < n → w.cell? ⟨b', o' + k, none⟩ = some (.string (g k))) :
    Calls Ybaf.prog 10 #[.slice (some ⟨b, o, none⟩) n c, .slice (some ⟨b', o', none⟩) n c'] w fun e w' => e = .returned (.bool true) ∧ Below w.heap.size w w' := by
  go_enter Ybaf.func10, Ybaf.ntmps10
  go_wp2
  go_loopw [13] (fun i wr => ∃ k q : Nat, k ≤ n ∧ i = .int .i64 k ∧ wr = w.drewN q) (fun i _ => n - (RowKit.intOf i).toNat)
  case atStart => exact ⟨0, 0, by omega, rfl, rfl⟩
  case round =>
    obtain ⟨k, q, hk, rfl, rfl⟩ := hrel
    by_cases hlt : k < n
    · have h1 := h k hlt
      have h2 := h' k hlt
      have hki : (k : Int) < (n : Int) := by omega
      go_wp2
      go_quiet (fail)
      go_wp2
      go_roundw
      case rel => exact ⟨k + 1, q + nq, by omega, by go_num, rfl⟩
      case measure => simp [RowKit.intOf]; omega
    · go_wp2
      go_ret
      exact ⟨rfl, below_drewN (Below.refl _ _) _⟩

set_option maxHeartbeats 400000 in
theorem seq_empty (a a' : Option Addr) (c c' : Nat) (w : World) :
    Calls Ybaf.prog 10 #[.slice a (0 : Nat) c, .slice a' (0 : Nat) c'] w fun e w' => e = .returned (.bool true) ∧ Below w.heap.size w w' := by
  go_enter Ybaf.func10, Ybaf.ntmps10
  go_wp2
  refine wp_loop_rounds 1 ?_
  rw [rounds_succ]
  go_wp2
  go_ret
  exact ⟨rfl, Below.refl _ _⟩

theorem seq_any (B : Nat) (a a' : Option Addr) (n c c' : Nat) (g : Nat → ByteArray) (w : World) (hn : n ≤ 1048576) (h : SRow B w a n g) (h' : SRow B w a' n g) :
    Calls Ybaf.prog 10 #[.slice a n c, .slice a' n c'] w fun e w' => e = .returned (.bool true) ∧ Below w.heap.size w w' := by
  rcases h with rfl | ⟨b, o, rfl, _, h⟩
  · exact seq_empty a a' c c' w
  · rcases h' with rfl | ⟨b', o', rfl, _, h'⟩
    · exact seq_empty _ _ c c' w
    · exact seq_row b o b' o' n c c' g w hn h h'
end Go.Proofs.YbulkebkmFmt
