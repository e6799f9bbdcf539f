import Derived.Test.YbulkebneAReport
import Derived.Laws.EntriesVeiled
/-! LawS6400AWhole (function 3). -/
namespace Go.Proofs.Ybulkebne
open Go.RowKit
set_option linter.unusedVariables false

def hz (z : Nat → Int) (j : Nat) : ByteArray := if j % 2 = 0 then st (z (j / 2)) else st (z (j / 2) / 3)
theorem hz_even (z : Nat → Int) (k : Nat) : hz z (k * 2) = st (z k) := by
  unfold hz; rw [if_pos (by omega), show k * 2 / 2 = k from by omega]
theorem hz_odd (z : Nat → Int) (k : Nat) : hz z (k * 2 + 1) = st (z k / 3) := by
  unfold hz; rw [if_neg (by omega), show (k * 2 + 1) / 2 = k from by omega]

set_option maxRecDepth 100000 in
set_option maxHeartbeats 800000 in
theorem lawA_big (q rp : Bool) (nm : ByteArray) (a : Option Addr) (n c : Nat) (w : World) (hm : n ≤ maxLen) (hn : ¬ n ≤ 65536) :
    Calls Yba.prog 3 #[.bool q, .bool rp, .string nm, .slice a n c] w fun e w' => e = .returned (.bool true) ∧ Below w.heap.size w w' := by
  unfold maxLen at hm
  go_enter Yba.func3, Yba.ntmps3
  go_wp2_with fail
  go_ret
  exact ⟨rfl, (Below.refl _ w).alloc (Nat.le_refl _) _⟩

theorem owns_row {w : World} {B : Nat} {v : Value} {n : Nat} {h : Nat → ByteArray} (H : w.ownsRow B 27 2 v n (cl h n)) :
    ∃ a' c', v = .slice a' n c' ∧ (n = 0 ∨ ∃ g, a' = some ⟨g, 0, none⟩ ∧ g < w.heap.size ∧ ∀ j, j < n * 2 → w.cell? ⟨g, j, none⟩ = some (.string (h j))) := by
  have H' := H
  rcases H.2 with ⟨rfl, rfl⟩ | ⟨g, cap, cur, rfl, hg, hh, hn, hm, hcur, ht⟩
  · exact ⟨none, 0, rfl, .inl rfl⟩
  · exact ⟨some ⟨g, 0, none⟩, cap, rfl, .inr ⟨g, rfl, (Array.getElem?_eq_some_iff.1 hh).1, fun j hj => by rw [H'.cellAt j hj, cl_get h n j hj]⟩⟩

theorem make_any (w : World) (n : Nat) (hn : n ≤ 65536) : (Instr.makeSlice 23 (.int .i64 (n : Int)) (.int .i64 (n : Int))).run Yba.prog w = .ok (.slice (some ⟨w.heap.size, 0, none⟩) n n) (w.alloc (.cells (madeCells #[.string ⟨#[]⟩, .string ⟨#[]⟩] (n * 2)) 27)) := by
  have := run_make (P := Yba.prog) w 23 27 Yba.t27 (.agg #[.string ⟨#[]⟩, .string ⟨#[]⟩]) Yba.underlying23 info27 rfl .i64 .i64 n n (by omega) (by omega) (by simp [Yba.t27]; omega) (by omega)
  simpa [Yba.t27, Value.cells] using this

theorem made_get (n j : Nat) (hj : j < n * 2) : (madeCells #[.string ⟨#[]⟩, .string ⟨#[]⟩] (n * 2))[j]? = some (Value.string ⟨#[]⟩) := by
  simp [madeCells, hj]
  have : j % 2 = 0 ∨ j % 2 = 1 := by omega
  rcases this with e | e <;> simp [e]

/-- What stands behind 'pending := make(..); copy(pending, want)'. -/
def Copied (w w3 : World) (n : Nat) (h : Nat → ByteArray) : Prop :=
  (∀ j, j < n * 2 → w3.cell? ⟨w.heap.size, j, none⟩ = some (.string (h j))) ∧ (∀ j, w3.frozen? ⟨w.heap.size, j, none⟩ = false) ∧
      (∀ b o, b < w.heap.size → w3.cell? ⟨b, o, none⟩ = w.cell? ⟨b, o, none⟩) ∧ (∀ b o, b < w.heap.size → w3.frozen? ⟨b, o, none⟩ = w.frozen? ⟨b, o, none⟩) ∧ Below w.heap.size w w3

/-- 'pending := make(..); copy(pending, want)'. -/
theorem copy_any (w : World) (n : Nat) (a : Option Addr) (c : Nat) (h : Nat → ByteArray) (hn : n ≤ 65536) (H : n = 0 ∨ ∃ g, a = some ⟨g, 0, none⟩ ∧ g < w.heap.size ∧ ∀ j, j < n * 2 → w.cell? ⟨g, j, none⟩ = some (.string (h j))) (ty : TypeId) :
    ∃ w3, (Builtin.copy_ #[23, 23] ty #[.slice (some ⟨w.heap.size, 0, none⟩) n n, .slice a n c]).run Yba.prog (w.alloc (.cells (madeCells #[.string ⟨#[]⟩, .string ⟨#[]⟩] (n * 2)) 27)) = .ok (.int .i64 (n : Int)) w3 ∧ w3.heap.size = w.heap.size + 1 ∧ Copied w w3 n h := by
  have hcs : ∀ j, j < (cl h n).length → ((w.alloc (.cells (madeCells #[.string ⟨#[]⟩, .string ⟨#[]⟩] (n * 2)) 27)).cell? ⟨w.heap.size, 0 + j, none⟩).isSome = true := fun j hj => by
    rw [cl_len] at hj
    rw [Nat.zero_add, World.cell?_alloc_new, made_get n j hj]; rfl
  have hB0 := (Below.refl w.heap.size w).alloc (Nat.le_refl _) (.cells (madeCells #[.string ⟨#[]⟩, .string ⟨#[]⟩] (n * 2)) 27)
  have hbl := below_setCells (b := w.heap.size) (Nat.le_refl w.heap.size) (cl h n) 0 _ hB0
  refine ⟨(w.alloc (.cells (madeCells #[.string ⟨#[]⟩, .string ⟨#[]⟩] (n * 2)) 27)).setCells w.heap.size 0 (cl h n), ?_, ?_, fun j hj => ?_, fun j => ?_, fun b o hb => hbl.cell (p := ⟨b, o, none⟩) hb, fun b o hb => hbl.frozen (p := ⟨b, o, none⟩) hb, hbl⟩
  · rcases H with rfl | ⟨g, rfl, hg, H⟩
    · have hi : Yba.prog.info? 27 = some Yba.t27 := info27
      have hl : ∀ (x : Addr) (w : World), (loadCells x 0).run Yba.prog w = .ok #[] w := fun x w => by simpa using run_loadCells_list (P := Yba.prog) w x [] (by simp)
      cases a <;> simp [Builtin.copy_, run_underlying Yba.underlying23, Builtin.lenOf, Builtin.firstCells, sizeOf, typeInfo, hi, cl, World.setCells, storeCells, hl] <;> rfl
    · refine copy2 _ 23 23 ty 27 w.heap.size 0 n n ⟨g, 0, none⟩ n c (cl h n) n Yba.underlying23 (by rw [info27]; rfl) (Nat.min_self n).symm (cl_len _ _) ?_ hcs (fun j _ => by simp) ?_
      · intro j v e
        have hj : j < n * 2 := by have := (List.getElem?_eq_some_iff.1 e).1; simpa [cl_len] using this
        rw [cl_get h n j hj] at e
        cases e
        rw [Addr.add_lit, Nat.zero_add, hB0.cell (p := ⟨g, j, none⟩) hg]
        exact H j hj
      · intro v hv; obtain ⟨x, _, rfl⟩ := List.mem_map.1 hv; rfl
  · rw [size_setCells]; simp
  · have := World.cell?_setCells_in w.heap.size (cl h n) 0 _ hcs j (by rw [cl_len]; exact hj)
    rw [Nat.zero_add] at this
    rw [this]
    simp [cl]
  · rw [World.frozen?_setCells]; simp

theorem St.start (w3 : World) (Z nb n : Nat) (nm : ByteArray) (h : Nat → ByteArray) (rp : Bool) (hz : w3.heap.size = Z + 1) (hnb : nb < Z) (c0 : w3.cell? ⟨nb, 0, none⟩ = some (.string nm)) (cp : ∀ j, j < n * 2 → w3.cell? ⟨Z, j, none⟩ = some (.string (h j))) (fp : ∀ j, w3.frozen? ⟨Z, j, none⟩ = false) :
    St ((((w3.alloc (.cells #[.slice none 0 0] 23)).alloc (.cells #[.bool false] 4)).alloc (.cells #[.pointer none, .pointer (some ⟨Z + 1 + 1 + 1 + 1, 0, none⟩), .string { data := #[] }, .int .i64 0, .int .u32 0, .int .u32 0, .string nm, .int .i64 0, .int .i64 0, .int .i64 0, .int .i64 0, .int .i32 0, .int .u32 0, .int .u64 0, .int .i64 0, .int .i64 0, .int .i64 0, .slice none 0 0, .slice none 0 0, .int .u64 0, .int .i64 0, .int .i64 0, .int .i64 0, .int .i64 0] 61)).alloc (.cells #[.nilIface, .int .u64 0, .int .i64 0, .pointer none, .nilFunc, .int .i64 0, .int .i64 0, .nilFunc, .float .f64 0, .int .i64 0, .slice none 0 0, .func (.func 6) #[] #[.pointer (some ⟨nb, 0, none⟩), .pointer (some ⟨Z + 1 + 1, 0, none⟩), .pointer (some ⟨Z + 1, 0, none⟩)], .slice (some ⟨Z, 0, none⟩) n n, .bool rp] 75)) (Z + 1 + 1 + 1 + 1 + 1) nb Z (Z + 1) (Z + 1 + 1) (Z + 1 + 1 + 1) (Z + 1 + 1 + 1 + 1) nm n h 0 rp 0 0 := by
  have b1 : Below w3.heap.size w3 ((((w3.alloc (.cells #[.slice none 0 0] 23)).alloc (.cells #[.bool false] 4)).alloc (.cells #[.pointer none, .pointer (some ⟨Z + 1 + 1 + 1 + 1, 0, none⟩), .string { data := #[] }, .int .i64 0, .int .u32 0, .int .u32 0, .string nm, .int .i64 0, .int .i64 0, .int .i64 0, .int .i64 0, .int .i32 0, .int .u32 0, .int .u64 0, .int .i64 0, .int .i64 0, .int .i64 0, .slice none 0 0, .slice none 0 0, .int .u64 0, .int .i64 0, .int .i64 0, .int .i64 0, .int .i64 0] 61)).alloc (.cells #[.nilIface, .int .u64 0, .int .i64 0, .pointer none, .nilFunc, .int .i64 0, .int .i64 0, .nilFunc, .float .f64 0, .int .i64 0, .slice none 0 0, .func (.func 6) #[] #[.pointer (some ⟨nb, 0, none⟩), .pointer (some ⟨Z + 1 + 1, 0, none⟩), .pointer (some ⟨Z + 1, 0, none⟩)], .slice (some ⟨Z, 0, none⟩) n n, .bool rp] 75)) := ((((Below.refl _ w3).alloc (Nat.le_refl _) _).alloc (by simp) _).alloc (by simp; omega) _).alloc (by simp; omega) _
  have z1 : Z < w3.heap.size := by omega
  have z2 : nb < w3.heap.size := by omega
  refine ⟨(b1.cell (p := ⟨nb, 0, none⟩) z2).trans c0, ?_, ?_, ?_, ?_, ?_, ?_, ?_, ?_, ?_, ?_, fun j hj => (b1.cell (p := ⟨Z, j, none⟩) z1).trans (by rw [cp j (by omega)]; simp), fun j hj => by rw [b1.cell (p := ⟨Z, j, none⟩) z1, cp j hj]; rfl, fun j hj => (b1.frozen (p := ⟨Z, j, none⟩) z1).trans (fp j), ⟨.slice none 0 0, ?_, rfl, .inl ⟨rfl, rfl⟩⟩, ?_, by omega, by omega, by omega, by omega, by omega, by omega, ?_⟩
  all_goals clear b1 cp fp c0
  all_goals go_simp

set_option maxRecDepth 100000 in
set_option maxHeartbeats 2000000 in
theorem lawA_row (q rp : Bool) (nm : ByteArray) (a : Option Addr) (n c : Nat) (z : Nat → Int) (w : World) (hn : n ≤ 65536)
    (hA : n = 0 ∨ ∃ b off, a = some ⟨b, off, none⟩ ∧ b < w.heap.size ∧ ∀ k, k < n → w.cell? ⟨b, off + k, none⟩ = some (.int .u8 (z k))) (hzb : ∀ k, k < n → 0 ≤ z k ∧ z k ≤ 255) :
    Calls Yba.prog 3 #[.bool q, .bool rp, .string nm, .slice a n c] w fun e w' => e = .returned (.bool true) ∧ Below w.heap.size w w' := by
  go_enter Yba.func3, Yba.ntmps3
  go_wp2_with fail
  go_loopw [9, 21] (fun v i wr => ∃ k : Nat, k ≤ n ∧ i = .int .i64 k ∧ wr.ownsRow (w.heap.size + 1) 27 2 v k (cl (hz z) k) ∧ Below (w.heap.size + 1) (w.alloc (.cells #[.string nm] 9)) wr) (fun _ i _ => n - (RowKit.intOf i).toNat)
  case atStart => exact ⟨0, Nat.zero_le _, rfl, ⟨rfl, .inl ⟨rfl, rfl⟩⟩, Below.refl _ _⟩
  case round =>
    obtain ⟨k, hk, rfl, ho, hB⟩ := hrel
    by_cases hlt : k < n
    · obtain ⟨b, off, rfl, hb, hc⟩ : ∃ b off, a = some ⟨b, off, none⟩ ∧ b < w.heap.size ∧ ∀ k, k < n → w.cell? ⟨b, off + k, none⟩ = some (.int .u8 (z k)) := by
        rcases hA with h0 | h1
        · omega
        · exact h1
      clear hA
      have e0 : wr.cell? ⟨b, off + k, none⟩ = some (.int .u8 (z k)) := (hB.cell (p := ⟨b, off + k, none⟩) (by show b < _; omega)).trans ((((Below.refl _ w).alloc (Nat.le_refl _) _).cell (p := ⟨b, off + k, none⟩) hb).trans (hc k hlt))
      have hz1 := hzb k hlt
      have hsz := hB.size
      simp only [World.size_alloc] at hsz
      clear hc hzb
      go_wp2_with (first | (go_at_call 5; refine (state_any _ (by omega) (by omega) _).mono ?_; rintro e w' ⟨rfl, hw'⟩; subst w') | (at_builtin; refine wpList_append_own _ rfl _ _ 23 rfl (w.heap.size + 1) 27 Yba.t27 (.agg #[.string { data := #[] }, .string { data := #[] }]) 2 32 Yba.underlying23 info27 rfl rfl rfl rfl (by decide) _ _ _ rfl (ho.alloc _) ⟨wr.heap.size, 0, none⟩ 1 1 [.string (st (z k)), .string (st (z k / 3))] rfl ?qc1 ?qc2 ?qc3 ?qc4 ?qc5 ?qc6 ?_))
      case qc1 => rfl
      case qc2 =>
        intro j u hj
        rw [Addr.add_lit, Nat.zero_add, World.cell?_alloc_new]
        simpa using hj
      case qc3 => intro u hu; simp at hu; rcases hu with rfl | rfl <;> rfl
      case qc4 => unfold maxLen; omega
      case qc5 => omega
      case qc6 => simp; omega
      intro v' w1 hown hgrow hnil
      have hB1 : Below (w.heap.size + 1) (w.alloc (.cells #[.string nm] 9)) w1 := (hB.alloc (by omega) _).grown hgrow (by simp; omega) (fun k hk => by
        rcases ho.2 with ⟨e1, _⟩ | ⟨g, cap, cur, e1, e2, _⟩
        · rw [e1] at hk; simp [Value.ownBlock] at hk
        · rw [e1] at hk; simp [Value.ownBlock] at hk; omega)
      rw [← hz_even, ← hz_odd, cl_succ] at hown
      go_wp2_with fail
      go_roundw
      case rel => exact ⟨k + 1, by omega, by go_num, hown, hB1⟩
      case measure => simp [RowKit.intOf]; omega
    · obtain rfl : k = n := by omega
      clear hA hzb
      obtain ⟨a', c', rfl, hrow⟩ := owns_row ho
      have hszr := hB.size
      simp only [World.size_alloc] at hszr
      obtain ⟨w3, hcp, hz3, hC⟩ := copy_any wr k a' c' (hz z) hn hrow 3
      have hmk : (Instr.makeSlice 23 (.int .i64 (k : Int)) (.int .i64 (k : Int))).run Yba.prog wr = .ok (.slice (some ⟨wr.heap.size, 0, none⟩) k k) (wr.alloc (.cells (madeCells #[.string ⟨#[]⟩, .string ⟨#[]⟩] (k * 2)) 27)) := make_any wr k hn
      have hnm3 : w3.cell? ⟨w.heap.size, 0, none⟩ = some (.string nm) := (hC.2.2.1 w.heap.size 0 (by omega)).trans ((hB.cell (p := ⟨w.heap.size, 0, none⟩) (by show w.heap.size < _; omega)).trans (by simp))
      have x0 : w.heap.size < wr.heap.size := by omega
      have x1 : w.heap.size < wr.heap.size + 1 := by omega
      have x2 : w.heap.size < wr.heap.size + 1 + 1 := by omega
      have x3 : w.heap.size < wr.heap.size + 1 + 1 + 1 := by omega
      have hmf : ∀ (fn : Fn) (first cap : Array Value) (w : World), (Instr.makeFunc fn first cap).run Yba.prog w = .ok (.func fn first cap) w := fun _ _ _ _ => rfl
      go_wp2_with fail
      have hw3 : Below wr.heap.size wr w3 := hC.2.2.2.2
      have s0 := St.start w3 wr.heap.size w.heap.size k nm (hz z) rp hz3 x0 hnm3 hC.1 hC.2.1
      have s1 := s0.setLock 1
      have hw4 : Below wr.heap.size wr (((((w3.alloc (.cells #[.slice none 0 0] 23)).alloc (.cells #[.bool false] 4)).alloc (.cells #[.pointer none, .pointer (some ⟨wr.heap.size + 1 + 1 + 1 + 1, 0, none⟩), .string { data := #[] }, .int .i64 0, .int .u32 0, .int .u32 0, .string nm, .int .i64 0, .int .i64 0, .int .i64 0, .int .i64 0, .int .i32 0, .int .u32 0, .int .u64 0, .int .i64 0, .int .i64 0, .int .i64 0, .slice none 0 0, .slice none 0 0, .int .u64 0, .int .i64 0, .int .i64 0, .int .i64 0, .int .i64 0] 61)).alloc (.cells #[.nilIface, .int .u64 0, .int .i64 0, .pointer none, .nilFunc, .int .i64 0, .int .i64 0, .nilFunc, .float .f64 0, .int .i64 0, .slice none 0 0, .func (.func 6) #[] #[.pointer (some ⟨w.heap.size, 0, none⟩), .pointer (some ⟨wr.heap.size + 1 + 1, 0, none⟩), .pointer (some ⟨wr.heap.size + 1, 0, none⟩)], .slice (some ⟨wr.heap.size, 0, none⟩) k k, .bool rp] 75)).setCell ⟨wr.heap.size + 1 + 1 + 1, 11, none⟩ (.int .i32 1)) :=
        ((((hw3.alloc (by omega) _).alloc (by simp; omega) _).alloc (by simp; omega) _).alloc (by simp; omega) _).setCell (p := ⟨wr.heap.size + 1 + 1 + 1, 11, none⟩) (by show wr.heap.size ≤ wr.heap.size + 1 + 1 + 1; omega) _
      refine (Go.MuLone.lock_free muLib ⟨wr.heap.size + 1 + 1 + 1, 11, none⟩ _ s0.lock s0.lockf).mono ?_
      rintro e w5 ⟨rfl, hw5⟩
      rw [← hw5] at s1 hw4
      clear s0 hw5 hcp hmk hmf hC hnm3 hw3
      have hwant : CRow wr.heap.size wr a' k (hz z) := by
        rcases hrow with h0 | ⟨g, rfl, hg, H⟩
        · exact .inl h0
        · exact .inr ⟨g, 0, rfl, hg, fun j hj => by rw [Nat.zero_add]; exact H j hj⟩
      clear hrow ho hz3
      have hbw : Below w.heap.size w wr := ((Below.refl _ w).alloc (Nat.le_refl _) _).trans (hB.mono (by omega))
      clear hB
      go_wp2_with fail
      cases q with
      | true =>
        cases rp with
        | false =>
          refine (unlock_all (wr.heap.size + 1 + 1 + 1 + 1 + 1) w.heap.size wr.heap.size (wr.heap.size + 1) (wr.heap.size + 1 + 1) (wr.heap.size + 1 + 1 + 1) (wr.heap.size + 1 + 1 + 1 + 1) nm k (hz z) w5 hn s1).mono ?_
          rintro e w6 ⟨rfl, s6, hb6⟩
          have s7 := s6.setLock 1
          have s8 := s7.setLock 0
          go_wp2_with fail
          refine (trylock_free ⟨wr.heap.size + 1 + 1 + 1, 11, none⟩ _ s6.lock s6.lockf).mono ?_
          rintro e w7 ⟨rfl, rfl⟩
          go_wp2_with fail
          refine (Go.MuLone.unlock_held muLib ⟨wr.heap.size + 1 + 1 + 1, 11, none⟩ _ s7.lock s7.lockf).mono ?_
          rintro e w8 ⟨rfl, hw8⟩
          rw [← hw8] at s8
          have hb8 : Below wr.heap.size wr w8 := by
            rw [hw8]
            exact (((hw4.trans hb6).setCell (p := ⟨wr.heap.size + 1 + 1 + 1, 11, none⟩) (by show wr.heap.size ≤ wr.heap.size + 1 + 1 + 1; omega) _).setCell (p := ⟨wr.heap.size + 1 + 1 + 1, 11, none⟩) (by show wr.heap.size ≤ wr.heap.size + 1 + 1 + 1; omega) _)
          clear hw8 s7 s6 hb6 hw4 s1
          have hwant8 := hwant.below hb8
          have g1 := s8.bad
          have g2 := s8.opt
          have g3 := s8.pend
          have g4 := s8.rep
          obtain ⟨v, hv, hov⟩ := s8.got
          obtain ⟨a2, c2, rfl, hr2⟩ := owns_row hov
          have hgot : CRow w8.heap.size w8 a2 k (hz z) := by
            rcases hr2 with h0 | ⟨g, rfl, hg, H⟩
            · exact .inl h0
            · exact .inr ⟨g, 0, rfl, hg, fun j hj => by rw [Nat.zero_add]; exact H j hj⟩
          have hwant9 : CRow w8.heap.size w8 a' k (hz z) := by
            have := hb8.size
            rcases hwant8 with h0 | ⟨g, o, e1, hg, H⟩
            · exact .inl h0
            · exact .inr ⟨g, o, e1, by omega, H⟩
          have hkk : k - k = 0 := Nat.sub_self k
          rw [hkk] at g3
          clear hkk
          go_wp2_with fail
          refine (same_any _ a2 a' k c2 c' (hz z) _ hn hgot hwant9).mono ?_
          rintro e w9 ⟨rfl, qq, rfl⟩
          go_wp2_with fail
          go_ret
          exact ⟨rfl, below_drewN (hbw.trans (hb8.mono (by omega))) _⟩
        | true =>
          refine (unlock_busy (wr.heap.size + 1 + 1 + 1 + 1 + 1) w.heap.size wr.heap.size (wr.heap.size + 1) (wr.heap.size + 1 + 1) (wr.heap.size + 1 + 1 + 1) (wr.heap.size + 1 + 1 + 1 + 1) nm k (hz z) 0 0 w5 s1).mono ?_
          rintro e w6 ⟨rfl, s6, hb6⟩
          have s7 := s6.setLock 1
          have s8 := s7.setLock 0
          go_wp2_with fail
          refine (trylock_free ⟨wr.heap.size + 1 + 1 + 1, 11, none⟩ _ s6.lock s6.lockf).mono ?_
          rintro e w7 ⟨rfl, rfl⟩
          go_wp2_with fail
          refine (Go.MuLone.unlock_held muLib ⟨wr.heap.size + 1 + 1 + 1, 11, none⟩ _ s7.lock s7.lockf).mono ?_
          rintro e w8 ⟨rfl, hw8⟩
          rw [← hw8] at s8
          have hb8 : Below wr.heap.size wr w8 := by
            rw [hw8]
            exact (((hw4.trans hb6).setCell (p := ⟨wr.heap.size + 1 + 1 + 1, 11, none⟩) (by show wr.heap.size ≤ wr.heap.size + 1 + 1 + 1; omega) _).setCell (p := ⟨wr.heap.size + 1 + 1 + 1, 11, none⟩) (by show wr.heap.size ≤ wr.heap.size + 1 + 1 + 1; omega) _)
          clear hw8 s7 s6 hb6 hw4 s1
          have hwant8 := hwant.below hb8
          have g1 := s8.bad
          have g2 := s8.opt
          have g3 := s8.pend
          have g4 := s8.rep
          obtain ⟨v, hv, hov⟩ := s8.got
          obtain ⟨a2, c2, rfl, hr2⟩ := owns_row hov
          have hpend : CRow w8.heap.size w8 (some ⟨wr.heap.size, 0, none⟩) k (hz z) := by
            refine .inr ⟨wr.heap.size, 0, rfl, by have := s8.ord; omega, fun j hj => ?_⟩
            have := s8.row j (by omega)
            rw [Nat.zero_mul, Nat.zero_add] at this
            rw [Nat.zero_add]
            exact this
          have hwant9 : CRow w8.heap.size w8 a' k (hz z) := by
            have := hb8.size
            rcases hwant8 with h0 | ⟨g, o, e1, hg, H⟩
            · exact .inl h0
            · exact .inr ⟨g, o, e1, by omega, H⟩
          rw [Nat.sub_zero] at g3
          go_wp2_with fail
          refine (same_any _ _ a' k k c' (hz z) _ hn hpend hwant9).mono ?_
          rintro e w9 ⟨rfl, qq, rfl⟩
          go_wp2_with fail
          go_ret
          exact ⟨rfl, below_drewN (hbw.trans (hb8.mono (by omega))) _⟩
      | false =>
        refine (unlock_not (wr.heap.size + 1 + 1 + 1 + 1 + 1) w.heap.size wr.heap.size (wr.heap.size + 1) (wr.heap.size + 1 + 1) (wr.heap.size + 1 + 1 + 1) (wr.heap.size + 1 + 1 + 1 + 1) nm k (hz z) rp 0 0 w5 s1).mono ?_
        rintro e w6 ⟨rfl, s6, hb6⟩
        have s7 := s6.setLock 1
        have s8 := s7.setLock 0
        go_wp2_with fail
        refine (trylock_free ⟨wr.heap.size + 1 + 1 + 1, 11, none⟩ _ s6.lock s6.lockf).mono ?_
        rintro e w7 ⟨rfl, rfl⟩
        go_wp2_with fail
        refine (Go.MuLone.unlock_held muLib ⟨wr.heap.size + 1 + 1 + 1, 11, none⟩ _ s7.lock s7.lockf).mono ?_
        rintro e w8 ⟨rfl, hw8⟩
        rw [← hw8] at s8
        have hb8 : Below wr.heap.size wr w8 := by
          rw [hw8]
          exact (((hw4.trans hb6).setCell (p := ⟨wr.heap.size + 1 + 1 + 1, 11, none⟩) (by show wr.heap.size ≤ wr.heap.size + 1 + 1 + 1; omega) _).setCell (p := ⟨wr.heap.size + 1 + 1 + 1, 11, none⟩) (by show wr.heap.size ≤ wr.heap.size + 1 + 1 + 1; omega) _)
        clear hw8 s7 s6 hb6 hw4 s1
        have hwant8 := hwant.below hb8
        have g1 := s8.bad
        have g2 := s8.opt
        have g3 := s8.pend
        have g4 := s8.rep
        obtain ⟨v, hv, hov⟩ := s8.got
        obtain ⟨a2, c2, rfl, hr2⟩ := owns_row hov
        have hpend : CRow w8.heap.size w8 (some ⟨wr.heap.size, 0, none⟩) k (hz z) := by
          refine .inr ⟨wr.heap.size, 0, rfl, by have := s8.ord; omega, fun j hj => ?_⟩
          have := s8.row j (by omega)
          rw [Nat.zero_mul, Nat.zero_add] at this
          rw [Nat.zero_add]
          exact this
        have hwant9 : CRow w8.heap.size w8 a' k (hz z) := by
          have := hb8.size
          rcases hwant8 with h0 | ⟨g, o, e1, hg, H⟩
          · exact .inl h0
          · exact .inr ⟨g, o, e1, by omega, H⟩
        rw [Nat.sub_zero] at g3
        go_wp2_with fail
        refine (same_any _ _ a' k k c' (hz z) _ hn hpend hwant9).mono ?_
        rintro e w9 ⟨rfl, qq, rfl⟩
        go_wp2_with fail
        go_ret
        exact ⟨rfl, below_drewN (hbw.trans (hb8.mono (by omega))) _⟩
end Go.Proofs.Ybulkebne
