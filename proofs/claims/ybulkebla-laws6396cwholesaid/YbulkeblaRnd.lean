import Derived.Test.YbulkeblaKit
import Derived.Test.YbulkeblaBitsLen
import Derived.Laws.Bits64
import Derived.Laws.Bits64b
import Derived.BigRegion
/-! (*slices.xorshift).Next (109), slices.nextPowerOfTwo (108), slices.breakPatternsOrdered at int32 (83). -/
namespace Go.Proofs.Ybulkebla
open Go.RowKit
set_option linter.unusedVariables false

theorem xorN (x y : Int) (hx : 0 ≤ x) (hx2 : x < 18446744073709551616) (hy : 0 ≤ y) (hy2 : y < 18446744073709551616) : ∃ A : Nat, A < 18446744073709551616 ∧ bits .xor .u64 x y = (A : Int) := by
  refine ⟨x.toNat ^^^ y.toNat, Nat.xor_lt_two_pow (n := 64) (by omega) (by omega), ?_⟩
  have := bits_xor_u64_nat x.toNat y.toNat (by omega) (by omega)
  rwa [show ((x.toNat : Nat) : Int) = x by omega, show ((y.toNat : Nat) : Int) = y by omega] at this

/-- The generator's box at block Q. -/
structure Rb (Q : Nat) (w0 w : World) (X : Nat) : Prop where
  cell : w.cell? ⟨Q, 0, none⟩ = some (.int .u64 (X : Int))
  froz : w.frozen? ⟨Q, 0, none⟩ = false
  bel : Below Q w0 w
  lt : X < 18446744073709551616

theorem Rb.put {Q : Nat} {w0 w : World} {X A : Nat} (h : Rb Q w0 w X) (hA : A < 18446744073709551616) : Rb Q w0 ((w.setCell ⟨Q, 0, none⟩ (.int .u64 (A : Int))).drew) A := by
  refine ⟨?_, ?_, (h.bel.setCell (Nat.le_refl _) _).drew, hA⟩
  · exact World.cell?_setCell_same' w ⟨Q, 0, none⟩ (.int .u64 (A : Int)) (by rw [h.cell]; rfl)
  · have := h.froz
    show (w.setCell ⟨Q, 0, none⟩ (.int .u64 (A : Int))).frozen? ⟨Q, 0, none⟩ = false
    simpa [World.frozen?_setCell] using this

set_option maxHeartbeats 2000000 in
set_option maxRecDepth 100000 in
theorem next (Q X : Nat) (w0 w : World) (hS : Rb Q w0 w X) :
    Calls Yba.prog 109 #[.pointer (some ⟨Q, 0, none⟩)] w fun e w' => ∃ X', e = .returned (.int .u64 (X' : Nat)) ∧ Rb Q w0 w' X' := by
  have S0 : Hid (Rb Q w0 w X) := hS
  have l0 := hS.lt
  have hc0 := hS.cell
  have hf0 := hS.froz
  clear hS
  obtain ⟨A, lA, e1⟩ := xorN X (IntKind.u64.wrap ((X : Int) * 8192)) (by omega) (by omega) (by rw [IntKind.wrap_u64]; omega) (by rw [IntKind.wrap_u64]; omega)
  obtain ⟨C, lC, e2⟩ := xorN A ((A : Int) / 128) (by omega) (by omega) (by omega) (by omega)
  obtain ⟨D, lD, e3⟩ := xorN C (IntKind.u64.wrap ((C : Int) * 131072)) (by omega) (by omega) (by rw [IntKind.wrap_u64]; omega) (by rw [IntKind.wrap_u64]; omega)
  go_enter Yba.func109, Yba.ntmps109
  go_wp2_with fail
  go_region
  go_wp2_with fail
  have S1 : Hid (Rb Q w0 ((w.setCell ⟨Q, 0, none⟩ (.int .u64 (A : Int))).drew) A) := S0.out.put lA
  clear S0 hc0 hf0
  generalize ((w.setCell ⟨Q, 0, none⟩ (.int .u64 (A : Int))).drew) = w1 at S1 ⊢
  have hc1 := S1.out.cell
  have hf1 := S1.out.froz
  go_region
  go_wp2_with fail
  have S2 : Hid (Rb Q w0 ((w1.setCell ⟨Q, 0, none⟩ (.int .u64 (C : Int))).drew) C) := S1.out.put lC
  clear S1 hc1 hf1
  generalize ((w1.setCell ⟨Q, 0, none⟩ (.int .u64 (C : Int))).drew) = w2 at S2 ⊢
  have hc2 := S2.out.cell
  have hf2 := S2.out.froz
  go_region
  go_wp2_with fail
  go_ret
  exact ⟨D, rfl, S2.out.put lD⟩

theorem two_pow_aux : ∀ (f x : Nat), 0 < x → 2 ^ Lib.bitLenAux f x ≤ 2 * x
  | 0, x, hx => by simp [Lib.bitLenAux]; omega
  | f + 1, x, hx => by
    rw [Lib.bitLenAux, if_neg (by omega), Nat.add_comm, Nat.pow_succ]
    by_cases h : x / 2 = 0
    · rw [h]
      have : Lib.bitLenAux f 0 = 0 := by cases f <;> simp [Lib.bitLenAux]
      rw [this]; simp; omega
    · have := two_pow_aux f (x / 2) (by omega)
      omega
theorem two_pow_len {x : Nat} (h : 0 < x) : 2 ^ Lib.bitLen x ≤ 2 * x := two_pow_aux 64 x h

theorem len_small (m : Nat) (w : World) (hm : m ≤ 4096) : Calls Yba.prog 36 #[.int .u64 (m : Int)] w fun e w' => e = .returned (.int .i64 (Lib.bitLen m : Nat)) ∧ w' = w := by
  have h := Yba.bits_Len (m : Int) w (by omega) (by omega)
  rwa [Int.toNat_natCast] at h

set_option maxHeartbeats 1000000 in
theorem nextPow (m : Nat) (w : World) (hm : m ≤ 4096) (hm0 : 0 < m) : Calls Yba.prog 108 #[.int .i64 (m : Int)] w fun e w' => e = .returned (.int .u64 ((2 ^ Lib.bitLen m : Nat) : Int)) ∧ w' = w := by
  have h13 : (2 : Nat) ^ Lib.bitLen m ≤ 2 ^ 13 := Nat.le_trans (two_pow_len hm0) (by omega)
  have hk : Lib.bitLen m ≤ 13 := (Nat.pow_le_pow_iff_right (by decide)).1 h13
  have hp : IntKind.u64.wrap ((2 : Int) ^ Lib.bitLen m) = ((2 ^ Lib.bitLen m : Nat) : Int) := by
    have h : (2 : Nat) ^ Lib.bitLen m ≤ 2 ^ 13 := Nat.pow_le_pow_right (by decide) hk
    rw [IntKind.wrap_u64, show ((2 : Int) ^ Lib.bitLen m) = ((2 ^ Lib.bitLen m : Nat) : Int) by push_cast; rfl]
    generalize (2 : Nat) ^ Lib.bitLen m = p at h
    omega
  go_enter Yba.func108, Yba.ntmps108
  go_wp2_with (first | (go_at_call 36; refine (len_small m _ hm).mono ?_; rintro e w' ⟨rfl, rfl⟩))
  go_ret
  exact ⟨rfl, rfl⟩

theorem Rb.two {Q : Nat} {w0 w : World} {X : Nat} (h : Rb Q w0 w X) (p1 p2 : Addr) (x y : Value) (h1 : p1.block ≠ Q) (h2 : p2.block ≠ Q) :
    Rb Q ((w.setCell p1 x).setCell p2 y).drew ((w.setCell p1 x).setCell p2 y).drew X := by
  have e : ((w.setCell p1 x).setCell p2 y).drew.heap[Q]? = w.heap[Q]? := by
    show ((w.setCell p1 x).setCell p2 y).heap[Q]? = _
    rw [Below.heap_setCell _ _ _ _ (Ne.symm h2), Below.heap_setCell _ _ _ _ (Ne.symm h1)]
  exact ⟨by rw [World.cell?_of_block (w := w) e]; exact h.cell, by rw [World.frozen?_of_block (w := w) e]; exact h.froz, Below.refl _ _, h.lt⟩

theorem lt_size {B blk off n : Nat} {w0 w : World} {d : Array Int} (h : St B blk off n w0 w d) (hn : 0 < n) : blk < w.heap.size := by
  obtain ⟨c, e, fr, hb, _⟩ := Sort.cells_of_cell? (h.cell 0 hn)
  exact (Array.getElem?_eq_some_iff.1 hb).1

theorem rb_new {w w' : World} {m : Nat} (hm : m ≤ 4096) (hw : w' = w.alloc (.cells #[.int .u64 (m : Int)] 219)) : Rb w.heap.size w w' m := by
  subst hw
  refine ⟨by simp, by simp, (Below.refl _ w).alloc (Nat.le_refl _) _, by omega⟩

set_option maxHeartbeats 4000000 in
set_option maxRecDepth 100000 in
theorem breakPat (B blk off cap n a m : Nat) (d : Array Int) (w0 w : World) (hS : St B blk off n w0 w d) (hB : B ≤ blk) (hm : 12 < m) (hb : a + m ≤ n) (hn : n ≤ 4096) :
    Calls Yba.prog 83 #[.slice (some ⟨blk, off, none⟩) n cap, .int .i64 a, .int .i64 ((a : Int) + (m : Int))] w fun e w' =>
      e = .returned (.tuple #[]) ∧ ∃ d', Sort.PermIn a (a + m) d d' ∧ St B blk off n w0 w' d' := by
  have hlt := lt_size hS (by omega)
  have S0 : Hid (St B blk off n w0 w d) := hS
  clear hS
  have hsub : (a : Int) + (m : Int) - (a : Int) = (m : Int) := by omega
  obtain ⟨q, hq⟩ : ∃ q, q = m / 4 := ⟨_, rfl⟩
  have hq4 : (m : Int) / 4 = (q : Int) := by omega
  have q1 : 3 ≤ q := by omega
  have q2 : 4 * q ≤ m := by omega
  clear hq
  have HNP : Hid (∀ w, Calls Yba.prog 108 #[.int .i64 (m : Int)] w fun e w' => ∃ M : Nat, (1 ≤ M ∧ M ≤ 2 * m) ∧ e = .returned (.int .u64 (M : Int)) ∧ w' = w) := fun w =>
    (nextPow m w (by omega) (by omega)).mono (fun e w' h => ⟨_, ⟨Nat.two_pow_pos _, two_pow_len (by omega)⟩, h⟩)
  go_enter Yba.func83, Yba.ntmps83
  go_wp2_with fail
  refine (HNP.out _).mono ?_
  rintro e w1 ⟨M, ⟨hM1, hM2⟩, rfl, hw1⟩
  have R0 : Hid (Rb w.heap.size w w1 m) := rb_new (by omega) hw1
  clear hw1
  obtain ⟨Q, HQ⟩ : ∃ Q, Hid (w.heap.size = Q) := ⟨_, rfl⟩
  rw [HQ.out] at R0 hlt ⊢
  have S1 : Hid (St B blk off n w0 w1 d) := S0.out.step R0.out.bel hlt (by omega)
  go_wp2_with fail
  go_loopw [9] (fun vi wr => ∃ (j X : Nat) (dk : Array Int), vi = .int .i64 j ∧ a + q * 2 ≤ j + 1 ∧ j ≤ a + q * 2 + 2 ∧ Hid (St B blk off n w0 wr dk) ∧ Hid (Rb Q wr wr X) ∧ Hid (Sort.PermIn a (a + m) d dk))
    (fun vi _ => a + q * 2 + 2 - (RowKit.intOf vi).toNat)
  case atStart => exact ⟨a + q * 2 - 1, m, d, by congr 1; omega, by omega, by omega, S1, ⟨R0.out.cell, R0.out.froz, Below.refl _ _, R0.out.lt⟩, Sort.permIn_refl _ _ _⟩
  case round =>
    obtain ⟨j, X, dk, rfl, hj1, hj2, SK, RK, HP⟩ := hrel
    by_cases hj3 : j ≤ a + q * 2 + 1
    · go_wp2_with fail
      refine (next Q X wr wr RK.out).mono ?_
      rintro e w2 ⟨X', rfl, R2⟩
      have l2 := R2.lt
      have S2 : Hid (St B blk off n w0 w2 dk) := SK.out.step R2.bel hlt (by omega)
      have R2 : Hid _ := R2
      obtain ⟨O, hO⟩ : ∃ O : Nat, O = X' &&& (M - 1) := ⟨_, rfl⟩
      have lO : O ≤ M - 1 := by rw [hO]; exact Nat.and_le_right
      have eAnd : bits .and .u64 (X' : Int) ((M : Int) - 1) = (O : Int) := by
        rw [show ((M : Int) - 1) = ((M - 1 : Nat) : Int) by omega, bits_and_u64_nat _ _ l2 (by omega), hO]
      clear hO
      have hcw := S2.out.cell
      have hfw := S2.out.froz
      by_cases hmo : m ≤ O
      · obtain ⟨o, rfl⟩ : ∃ o, O = m + o := ⟨O - m, by omega⟩
        have hs3 : (m : Int) + (o : Int) - (m : Int) = (o : Int) := by omega
        by_cases hE : j = a + o
        · subst hE
          go_wp2_with fail
          go_region
          go_wp2_with fail
          go_roundw
          case rel => exact ⟨a + o + 1, X', Sort.swp dk (a + o) (a + o), by first | go_num | (congr 1; omega), by omega, by omega, (S2.out.swp (i := a + o) (j := a + o) hB (by omega) (by omega) rfl rfl).drew, R2.out.two _ _ _ _ (by show blk ≠ Q; omega) (by show blk ≠ Q; omega), Sort.permIn_trans _ _ _ _ _ HP.out (Sort.swp_permIn dk a (a + m) (a + o) (a + o) (by omega) (by omega) (by omega) (by omega) (by rw [S2.out.size]; exact hb))⟩
          case measure => simp [RowKit.intOf]; omega
        · go_wp2_with fail
          go_region
          go_wp2_with fail
          go_roundw
          case rel => exact ⟨j + 1, X', Sort.swp dk (j) (a + o), by first | go_num | (congr 1; omega), by omega, by omega, (S2.out.swp (i := j) (j := a + o) hB (by omega) (by omega) rfl rfl).drew, R2.out.two _ _ _ _ (by show blk ≠ Q; omega) (by show blk ≠ Q; omega), Sort.permIn_trans _ _ _ _ _ HP.out (Sort.swp_permIn dk a (a + m) (j) (a + o) (by omega) (by omega) (by omega) (by omega) (by rw [S2.out.size]; exact hb))⟩
          case measure => simp [RowKit.intOf]; omega
      · by_cases hE : j = a + O
        · subst hE
          go_wp2_with fail
          go_region
          go_wp2_with fail
          go_roundw
          case rel => exact ⟨a + O + 1, X', Sort.swp dk (a + O) (a + O), by first | go_num | (congr 1; omega), by omega, by omega, (S2.out.swp (i := a + O) (j := a + O) hB (by omega) (by omega) rfl rfl).drew, R2.out.two _ _ _ _ (by show blk ≠ Q; omega) (by show blk ≠ Q; omega), Sort.permIn_trans _ _ _ _ _ HP.out (Sort.swp_permIn dk a (a + m) (a + O) (a + O) (by omega) (by omega) (by omega) (by omega) (by rw [S2.out.size]; exact hb))⟩
          case measure => simp [RowKit.intOf]; omega
        · go_wp2_with fail
          go_region
          go_wp2_with fail
          go_roundw
          case rel => exact ⟨j + 1, X', Sort.swp dk (j) (a + O), by first | go_num | (congr 1; omega), by omega, by omega, (S2.out.swp (i := j) (j := a + O) hB (by omega) (by omega) rfl rfl).drew, R2.out.two _ _ _ _ (by show blk ≠ Q; omega) (by show blk ≠ Q; omega), Sort.permIn_trans _ _ _ _ _ HP.out (Sort.swp_permIn dk a (a + m) (j) (a + O) (by omega) (by omega) (by omega) (by omega) (by rw [S2.out.size]; exact hb))⟩
          case measure => simp [RowKit.intOf]; omega
    · go_wp2_with fail
      go_end0
      exact ⟨rfl, dk, HP.out, SK.out⟩

end Go.Proofs.Ybulkebla
