import Derived.Test.YbulkebneANotify
import Derived.BigRegion
/-! (*Breaker).report (14) and unlock (8). -/
namespace Go.Proofs.Ybulkebne
open Go.RowKit
set_option linter.unusedVariables false

theorem St.drew {w : World} {B nb pb gb db bb ob : Nat} {nm : ByteArray} {n : Nat} {h : Nat → ByteArray} {lk : Int} {rp : Bool} {p d : Nat} (s : St w B nb pb gb db bb ob nm n h lk rp p d) : St w.drew B nb pb gb db bb ob nm n h lk rp p d :=
  s.below (Below.refl _ _).drew

theorem St.setLock {w : World} {B nb pb gb db bb ob : Nat} {nm : ByteArray} {n : Nat} {h : Nat → ByteArray} {lk : Int} {rp : Bool} {p d : Nat} (s : St w B nb pb gb db bb ob nm n h lk rp p d) (l : Int) :
    St (w.setCell ⟨bb, 11, none⟩ (.int .i32 l)) B nb pb gb db bb ob nm n h l rp p d := by
  obtain ⟨o1, o2, o3, o4, o5, o6, o7⟩ := s.ord
  have ne : ∀ b o, (b = bb → o ≠ 11) → (⟨bb, 11, none⟩ : Addr) ≠ ⟨b, o, none⟩ := fun b o hn e => by cases e; exact hn rfl rfl
  obtain ⟨v, hv, ho⟩ := s.got
  exact ⟨(World.cell?_setCell_other _ _ _ _ (ne nb 0 (by omega))).trans s.name, (World.cell?_setCell_other _ _ _ _ (ne db 0 (by omega))).trans s.bad, (World.cell?_setCell_other _ _ _ _ (ne bb 1 (by omega))).trans s.opt, (World.cell?_setCell_other _ _ _ _ (ne bb 6 (by omega))).trans s.bname, World.cell?_setCell_same _ _ _ s.lock,
    (World.frozen?_setCell _ _ _ _).trans s.lockf, (World.cell?_setCell_other _ _ _ _ (ne ob 11 (by omega))).trans s.cb, (World.cell?_setCell_other _ _ _ _ (ne ob 12 (by omega))).trans s.pend, (World.frozen?_setCell _ _ _ _).trans s.pendf, (World.cell?_setCell_other _ _ _ _ (ne ob 13 (by omega))).trans s.rep, (World.frozen?_setCell _ _ _ _).trans s.repf,
    fun j hj => (World.cell?_setCell_other _ _ _ _ (ne pb j (by omega))).trans (s.row j hj), fun j hj => by rw [World.cell?_setCell_other _ _ _ _ (ne pb j (by omega))]; exact s.rowc j hj, fun j hj => (World.frozen?_setCell _ _ _ _).trans (s.rowf j hj),
    ⟨v, (World.cell?_setCell_other _ _ _ _ (ne gb 0 (by omega))).trans hv, ownsRow_setCell_below ho (a := ⟨bb, 11, none⟩) (by show bb < B; omega) _⟩, (World.frozen?_setCell _ _ _ _).trans s.gotf, o1, o2, o3, o4, o5, o6, by simpa using o7⟩

theorem St.setRep {w : World} {B nb pb gb db bb ob : Nat} {nm : ByteArray} {n : Nat} {h : Nat → ByteArray} {lk : Int} {rp : Bool} {p d : Nat} (s : St w B nb pb gb db bb ob nm n h lk rp p d) (l : Bool) :
    St (w.setCell ⟨ob, 13, none⟩ (.bool l)) B nb pb gb db bb ob nm n h lk l p d := by
  obtain ⟨o1, o2, o3, o4, o5, o6, o7⟩ := s.ord
  have ne : ∀ b o, (b = ob → o ≠ 13) → (⟨ob, 13, none⟩ : Addr) ≠ ⟨b, o, none⟩ := fun b o hn e => by cases e; exact hn rfl rfl
  obtain ⟨v, hv, ho⟩ := s.got
  exact ⟨(World.cell?_setCell_other _ _ _ _ (ne nb 0 (by omega))).trans s.name, (World.cell?_setCell_other _ _ _ _ (ne db 0 (by omega))).trans s.bad, (World.cell?_setCell_other _ _ _ _ (ne bb 1 (by omega))).trans s.opt, (World.cell?_setCell_other _ _ _ _ (ne bb 6 (by omega))).trans s.bname, (World.cell?_setCell_other _ _ _ _ (ne bb 11 (by omega))).trans s.lock,
    (World.frozen?_setCell _ _ _ _).trans s.lockf, (World.cell?_setCell_other _ _ _ _ (ne ob 11 (by omega))).trans s.cb, (World.cell?_setCell_other _ _ _ _ (ne ob 12 (by omega))).trans s.pend, (World.frozen?_setCell _ _ _ _).trans s.pendf, World.cell?_setCell_same _ _ _ s.rep, (World.frozen?_setCell _ _ _ _).trans s.repf,
    fun j hj => (World.cell?_setCell_other _ _ _ _ (ne pb j (by omega))).trans (s.row j hj), fun j hj => by rw [World.cell?_setCell_other _ _ _ _ (ne pb j (by omega))]; exact s.rowc j hj, fun j hj => (World.frozen?_setCell _ _ _ _).trans (s.rowf j hj),
    ⟨v, (World.cell?_setCell_other _ _ _ _ (ne gb 0 (by omega))).trans hv, ownsRow_setCell_below ho (a := ⟨ob, 13, none⟩) (by show ob < B; omega) _⟩, (World.frozen?_setCell _ _ _ _).trans s.gotf, o1, o2, o3, o4, o5, o6, by simpa using o7⟩

set_option maxRecDepth 100000 in
set_option maxHeartbeats 1000000 in
theorem report_busy (B nb pb gb db bb ob : Nat) (nm : ByteArray) (n : Nat) (h : Nat → ByteArray) (p d : Nat) (w : World) (s : St w B nb pb gb db bb ob nm n h 0 true p d) :
    Calls Yba.prog 14 #[.pointer (some ⟨bb, 0, none⟩)] w fun e w' => e = .returned (.tuple #[]) ∧ St w' B nb pb gb db bb ob nm n h 0 true p d ∧ Below pb w w' := by
  have hord := s.ord
  have s1 := s.setLock 1
  have c1 := s.opt
  have c2 := s1.rep
  go_enter Yba.func14, Yba.ntmps14
  go_wp2_with fail
  refine (Go.MuLone.lock_free muLib ⟨bb, 11, none⟩ w s.lock s.lockf).mono ?_
  rintro e w1 ⟨rfl, rfl⟩
  go_wp2_with fail
  refine (Go.MuLone.unlock_held muLib ⟨bb, 11, none⟩ _ s1.lock s1.lockf).mono ?_
  rintro e w2 ⟨rfl, rfl⟩
  go_wp2_with fail
  refine bodyPost_ret (results_none rfl _ _ _) rfl ?_
  exact ⟨rfl, s1.setLock 0, ((Below.refl pb w).setCell (p := ⟨bb, 11, none⟩) (by show pb ≤ bb; omega) _).setCell (p := ⟨bb, 11, none⟩) (by show pb ≤ bb; omega) _⟩

/-- How many changes are pending. -/
def pendLen (ob : Nat) (w : World) : Nat := match w.cell? ⟨ob, 12, none⟩ with | some (.slice _ l _) => l | _ => 0
theorem St.pendLen {w : World} {B nb pb gb db bb ob : Nat} {nm : ByteArray} {n : Nat} {h : Nat → ByteArray} {lk : Int} {rp : Bool} {p d : Nat} (s : St w B nb pb gb db bb ob nm n h lk rp p d) : pendLen ob w = n - p := by
  unfold Ybulkebne.pendLen; rw [s.pend]

def shl (h : Nat → ByteArray) (k m : Nat) : List Value := (List.range (m * 2)).map fun j => Value.string (h ((k + 1) * 2 + j))
theorem shl_len (h : Nat → ByteArray) (k m : Nat) : (shl h k m).length = m * 2 := by simp [shl]
theorem shl_at {h : Nat → ByteArray} {k m j : Nat} {v : Value} (e : (shl h k m)[j]? = some v) : j < m * 2 ∧ v = .string (h ((k + 1) * 2 + j)) := by
  have hj : j < m * 2 := by have := (List.getElem?_eq_some_iff.1 e).1; simpa [shl_len] using this
  refine ⟨hj, ?_⟩
  simp [shl, hj] at e
  exact e.symm

theorem size_setCells (b : Nat) : ∀ (vs : List Value) (o : Nat) (w : World), (w.setCells b o vs).heap.size = w.heap.size
  | [], _, _ => rfl
  | v :: r, o, w => by rw [World.setCells, size_setCells b r]; exact World.size_setCell ..
theorem below_setCells {B : Nat} {a : World} {b : Nat} (hb : B ≤ b) : ∀ (vs : List Value) (o : Nat) (w : World), Below B a w → Below B a (w.setCells b o vs)
  | [], _, _, h => h
  | v :: r, o, w, h => below_setCells hb r (o + 1) _ (h.setCell (p := ⟨b, o, none⟩) hb v)
theorem ownsRow_setCells {B : Nat} {e : TypeId} {size : Nat} {v : Value} {n : Nat} {xs : List Value} {b : Nat} (hb : b < B) : ∀ (vs : List Value) (o : Nat) (w : World), w.ownsRow B e size v n xs → (w.setCells b o vs).ownsRow B e size v n xs
  | [], _, _, h => h
  | u :: r, o, w, h => ownsRow_setCells hb r (o + 1) _ (ownsRow_setCell_below h (a := ⟨b, o, none⟩) hb u)

/-- The pending changes moved down by one: what 'copy' does. -/
theorem St.copied {w : World} {B nb pb gb db bb ob : Nat} {nm : ByteArray} {n : Nat} {h : Nat → ByteArray} {lk : Int} {rp : Bool} {k d : Nat} (s : St w B nb pb gb db bb ob nm n h lk rp k d) (hk : k < n) (ty : TypeId) (a : Addr) (ha : a = ⟨pb, 2, none⟩ ∨ n - k - 1 = 0) :
    ∃ w2, (Builtin.copy_ #[23, 23] ty #[.slice (some ⟨pb, 0, none⟩) (n - k) n, .slice (some a) (n - k - 1) (n - 1)]).run Yba.prog w = .ok (.int .i64 ((n - k - 1 : Nat) : Int)) w2 ∧
      w2.cell? ⟨ob, 12, none⟩ = some (.slice (some ⟨pb, 0, none⟩) (n - k) n) ∧ w2.frozen? ⟨ob, 12, none⟩ = false ∧ w2.heap.size = w.heap.size ∧ (∀ b o, b ≠ pb → w2.cell? ⟨b, o, none⟩ = w.cell? ⟨b, o, none⟩) ∧
      Below pb w w2 ∧ St (w2.setCell ⟨ob, 12, none⟩ (.slice (some ⟨pb, 0, none⟩) (n - k - 1) n)) B nb pb gb db bb ob nm n h lk rp (k + 1) d := by
  obtain ⟨o1, o2, o3, o4, o5, o6, o7⟩ := s.ord
  have hout : ∀ b o, b ≠ pb → (w.setCells pb 0 (shl h k (n - k - 1))).cell? ⟨b, o, none⟩ = w.cell? ⟨b, o, none⟩ := fun b o hb => World.cell?_setCells_out pb _ 0 w ⟨b, o, none⟩ (fun e => absurd e hb)
  have hcs : ∀ j, j < (shl h k (n - k - 1)).length → (w.cell? ⟨pb, 0 + j, none⟩).isSome = true := fun j hj => by rw [Nat.zero_add]; rw [shl_len] at hj; exact s.rowc j (by omega)
  have hin : ∀ j, j < (n - k - 1) * 2 → (w.setCells pb 0 (shl h k (n - k - 1))).cell? ⟨pb, j, none⟩ = some (.string (h ((k + 1) * 2 + j))) := fun j hj => by
    have := World.cell?_setCells_in pb (shl h k (n - k - 1)) 0 w hcs j (by rw [shl_len]; exact hj)
    rw [Nat.zero_add] at this
    rw [this]
    simp [shl]
  have hbl : Below pb w (w.setCells pb 0 (shl h k (n - k - 1))) := below_setCells (b := pb) (by omega) _ _ _ (Below.refl _ _)
  have hz : (w.setCells pb 0 (shl h k (n - k - 1))).heap.size = w.heap.size := size_setCells pb _ _ _
  refine ⟨w.setCells pb 0 (shl h k (n - k - 1)), ?_, (hout ob 12 (by omega)).trans s.pend, (World.frozen?_setCells _ _ _ _ _).trans s.pendf, hz, hout, hbl, ?_⟩
  · refine copy2 w 23 23 ty 27 pb 0 (n - k) n a (n - k - 1) (n - 1) (shl h k (n - k - 1)) (n - k - 1) Yba.underlying23 (by rw [info27]; rfl) (Nat.min_eq_left (by omega)).symm (shl_len _ _ _) ?_ hcs (fun j hj => by rw [Nat.zero_add]; rw [shl_len] at hj; exact s.rowf j (by omega)) ?_
    · intro j v e
      obtain ⟨hj, rfl⟩ := shl_at e
      rcases ha with rfl | ha
      · rw [Addr.add_lit, s.row (2 + j) (by omega)]
        rw [show k * 2 + (2 + j) = (k + 1) * 2 + j from by omega]
      · omega
    · intro v hv; obtain ⟨x, _, rfl⟩ := List.mem_map.1 hv; rfl
  · obtain ⟨v, hv, ho⟩ := s.got
    have ne : ∀ b o, (b = ob → o ≠ 12) → (⟨ob, 12, none⟩ : Addr) ≠ ⟨b, o, none⟩ := fun b o hn e => by cases e; exact hn rfl rfl
    have key : ∀ b o, b ≠ pb → (b = ob → o ≠ 12) → ((w.setCells pb 0 (shl h k (n - k - 1))).setCell ⟨ob, 12, none⟩ (.slice (some ⟨pb, 0, none⟩) (n - k - 1) n)).cell? ⟨b, o, none⟩ = w.cell? ⟨b, o, none⟩ := fun b o hb hn => (World.cell?_setCell_other _ _ _ _ (ne b o hn)).trans (hout b o hb)
    have keyp : ∀ j, ((w.setCells pb 0 (shl h k (n - k - 1))).setCell ⟨ob, 12, none⟩ (.slice (some ⟨pb, 0, none⟩) (n - k - 1) n)).cell? ⟨pb, j, none⟩ = (w.setCells pb 0 (shl h k (n - k - 1))).cell? ⟨pb, j, none⟩ := fun j => World.cell?_setCell_other _ _ _ _ (ne pb j (by omega))
    have keyf : ∀ x : Addr, ((w.setCells pb 0 (shl h k (n - k - 1))).setCell ⟨ob, 12, none⟩ (.slice (some ⟨pb, 0, none⟩) (n - k - 1) n)).frozen? x = w.frozen? x := fun x => (World.frozen?_setCell _ _ _ _).trans (World.frozen?_setCells _ _ _ _ _)
    exact ⟨(key nb 0 (by omega) (by omega)).trans s.name, (key db 0 (by omega) (by omega)).trans s.bad, (key bb 1 (by omega) (by omega)).trans s.opt, (key bb 6 (by omega) (by omega)).trans s.bname, (key bb 11 (by omega) (by omega)).trans s.lock, (keyf _).trans s.lockf, (key ob 11 (by omega) (by omega)).trans s.cb,
      World.cell?_setCell_same _ _ _ ((hout ob 12 (by omega)).trans s.pend), (keyf _).trans s.pendf, (key ob 13 (by omega) (by omega)).trans s.rep, (keyf _).trans s.repf,
      fun j hj => (keyp j).trans (hin j (by omega)),
      fun j hj => by
        rw [keyp j]
        by_cases hj2 : j < (n - k - 1) * 2
        · rw [hin j hj2]; rfl
        · rw [World.cell?_setCells_out pb _ 0 w ⟨pb, j, none⟩ (fun _ _ => by rw [shl_len]; right; show 0 + _ ≤ j; omega)]; exact s.rowc j hj,
      fun j hj => (keyf _).trans (s.rowf j hj), ⟨v, (key gb 0 (by omega) (by omega)).trans hv, ownsRow_setCell_below (ownsRow_setCells (b := pb) (by omega) _ _ _ ho) (a := ⟨ob, 12, none⟩) (by show ob < B; omega) _⟩, (keyf _).trans s.gotf, o1, o2, o3, o4, o5, o6, by rw [World.size_setCell, hz]; exact o7⟩

set_option maxRecDepth 100000 in
set_option maxHeartbeats 2000000 in
theorem report_all (B nb pb gb db bb ob : Nat) (nm : ByteArray) (n : Nat) (h : Nat → ByteArray) (w : World) (hn : n ≤ 65536) (s : St w B nb pb gb db bb ob nm n h 0 false 0 0) :
    Calls Yba.prog 14 #[.pointer (some ⟨bb, 0, none⟩)] w fun e w' => e = .returned (.tuple #[]) ∧ St w' B nb pb gb db bb ob nm n h 0 false n n ∧ Below pb w w' := by
  have hord := s.ord
  have s1 := s.setLock 1
  have s2 := s1.setRep true
  have c1 := s.opt
  have c2 := s1.rep
  have c3 := s1.repf
  go_enter Yba.func14, Yba.ntmps14
  go_wp2_with fail
  refine (Go.MuLone.lock_free muLib ⟨bb, 11, none⟩ w s.lock s.lockf).mono ?_
  rintro e w1 ⟨rfl, rfl⟩
  have hb1 : Below pb w (w.setCell ⟨bb, 11, none⟩ (.int .i32 1)) := (Below.refl pb w).setCell (p := ⟨bb, 11, none⟩) (by show pb ≤ bb; omega) _
  go_wp2_with fail
  go_loopw [3] (fun _ wr => ∃ k : Nat, k ≤ n ∧ St wr B nb pb gb db bb ob nm n h 1 true k k ∧ Below pb w wr) (fun _ wr => pendLen ob wr)
  case atStart => exact ⟨0, Nat.zero_le _, s2, hb1.setCell (p := ⟨ob, 13, none⟩) (by show pb ≤ ob; omega) _⟩
  case round =>
    obtain ⟨k, hk, sk, hbk⟩ := hrel
    have hordk := sk.ord
    have d1 := sk.pend
    by_cases hlt : k < n
    · have e0 := sk.row 0 (by omega)
      have e1 := sk.row 1 (by omega)
      have hki : (0 : Int) < ((n - k : Nat) : Int) := by omega
      have sa : St (wr.alloc (.cells #[.string (h (k * 2)), .string (h (k * 2 + 1))] 27)).drew B nb pb gb db bb ob nm n h 1 true k k := (sk.below ((Below.refl _ _).alloc (Nat.le_refl _) _)).drew
      by_cases hn1 : n = 1
      · subst hn1
        obtain rfl : k = 0 := by omega
        obtain ⟨w2, hcp, q1, q2, q3, q4, hb2, s3⟩ := sa.copied hlt 3 ⟨pb, 0, none⟩ (.inr rfl)
        have z1 : ob < wr.heap.size := by omega
        have z2 : pb < wr.heap.size := by omega
        have d2 := sk.pendf
        simp only [Nat.sub_zero, Nat.sub_self] at hcp q1 d1
        go_wp2_with fail
        go_region
        have f0 : w2.cell? ⟨wr.heap.size, 0, none⟩ = some (.string (h (0 * 2))) := (q4 wr.heap.size 0 (by omega)).trans (by simp)
        have f1 : w2.cell? ⟨wr.heap.size, 1, none⟩ = some (.string (h (0 * 2 + 1))) := (q4 wr.heap.size 1 (by omega)).trans (by simp)
        have hne : ¬ wr.heap.size = ob := by omega
        have hne2 : ¬ wr.heap.size = bb := by omega
        go_wp2_with fail
        refine (Go.MuLone.unlock_held muLib ⟨bb, 11, none⟩ _ s3.lock s3.lockf).mono ?_
        rintro e w4 ⟨rfl, rfl⟩
        have s5 := s3.setLock 0
        go_wp2_with fail
        refine (notify_any B nb pb gb db bb ob nm 1 h 0 true (0 + 1) 0 _ (by omega) s5).mono ?_
        rintro e w6 ⟨rfl, s6, hb6⟩
        go_wp2_with fail
        refine (Go.MuLone.lock_free muLib ⟨bb, 11, none⟩ _ s6.lock s6.lockf).mono ?_
        rintro e w7 ⟨rfl, rfl⟩
        have s7 := s6.setLock 1
        have hbf : Below pb w (w6.setCell ⟨bb, 11, none⟩ (.int .i32 1)) := (((((((hbk.alloc (by omega) _).drew.trans hb2).setCell (p := ⟨ob, 12, none⟩) (by show pb ≤ ob; omega) _).setCell (p := ⟨bb, 11, none⟩) (by show pb ≤ bb; omega) _).trans hb6).setCell (p := ⟨bb, 11, none⟩) (by show pb ≤ bb; omega) _))
        go_wp2_with fail
        go_roundw
        case rel => exact ⟨0 + 1, by omega, s7, hbf⟩
        case measure => rw [s7.pendLen, sk.pendLen]; omega
      · obtain ⟨w2, hcp, q1, q2, q3, q4, hb2, s3⟩ := sa.copied hlt 3 ⟨pb, 2, none⟩ (.inl rfl)
        have z1 : ob < wr.heap.size := by omega
        have z2 : pb < wr.heap.size := by omega
        have hin : ¬ (n : Int) = 1 := by omega
        have hmi : (1 : Int) ≤ ((n - k : Nat) : Int) := by omega
        have hmn : 1 ≤ n - k := by omega
        have d2 := sk.pendf
        go_wp2_with fail
        go_region
        have f0 : w2.cell? ⟨wr.heap.size, 0, none⟩ = some (.string (h (k * 2))) := (q4 wr.heap.size 0 (by omega)).trans (by simp)
        have f1 : w2.cell? ⟨wr.heap.size, 1, none⟩ = some (.string (h (k * 2 + 1))) := (q4 wr.heap.size 1 (by omega)).trans (by simp)
        have hne : ¬ wr.heap.size = ob := by omega
        have hne2 : ¬ wr.heap.size = bb := by omega
        go_wp2_with fail
        refine (Go.MuLone.unlock_held muLib ⟨bb, 11, none⟩ _ s3.lock s3.lockf).mono ?_
        rintro e w4 ⟨rfl, rfl⟩
        have s5 := s3.setLock 0
        go_wp2_with fail
        refine (notify_any B nb pb gb db bb ob nm n h 0 true (k + 1) k _ (by omega) s5).mono ?_
        rintro e w6 ⟨rfl, s6, hb6⟩
        go_wp2_with fail
        refine (Go.MuLone.lock_free muLib ⟨bb, 11, none⟩ _ s6.lock s6.lockf).mono ?_
        rintro e w7 ⟨rfl, rfl⟩
        have s7 := s6.setLock 1
        have hbf : Below pb w (w6.setCell ⟨bb, 11, none⟩ (.int .i32 1)) := (((((((hbk.alloc (by omega) _).drew.trans hb2).setCell (p := ⟨ob, 12, none⟩) (by show pb ≤ ob; omega) _).setCell (p := ⟨bb, 11, none⟩) (by show pb ≤ bb; omega) _).trans hb6).setCell (p := ⟨bb, 11, none⟩) (by show pb ≤ bb; omega) _))
        go_wp2_with fail
        go_roundw
        case rel => exact ⟨k + 1, by omega, s7, hbf⟩
        case measure => rw [s7.pendLen, sk.pendLen]; omega
    · have d2 := sk.rep
      have d3 := sk.repf
      obtain rfl : k = n := by omega
      have s4 := sk.setRep false
      go_wp2_with fail
      refine (Go.MuLone.unlock_held muLib ⟨bb, 11, none⟩ _ s4.lock s4.lockf).mono ?_
      rintro e w2 ⟨rfl, rfl⟩
      go_wp2_with fail
      go_end0
      exact ⟨rfl, s4.setLock 0, ((hbk.setCell (p := ⟨ob, 13, none⟩) (by show pb ≤ ob; omega) _).setCell (p := ⟨bb, 11, none⟩) (by show pb ≤ bb; omega) _)⟩

set_option maxRecDepth 100000 in
set_option maxHeartbeats 1000000 in
theorem unlock_not (B nb pb gb db bb ob : Nat) (nm : ByteArray) (n : Nat) (h : Nat → ByteArray) (rp : Bool) (p d : Nat) (w : World) (s : St w B nb pb gb db bb ob nm n h 1 rp p d) :
    Calls Yba.prog 8 #[.pointer (some ⟨bb, 0, none⟩), .bool false] w fun e w' => e = .returned (.tuple #[]) ∧ St w' B nb pb gb db bb ob nm n h 0 rp p d ∧ Below pb w w' := by
  have hord := s.ord
  go_enter Yba.func8, Yba.ntmps8
  go_wp2_with fail
  refine (Go.MuLone.unlock_held muLib ⟨bb, 11, none⟩ _ s.lock s.lockf).mono ?_
  rintro e w2 ⟨rfl, rfl⟩
  go_wp2_with fail
  go_end0
  exact ⟨rfl, s.setLock 0, (Below.refl pb w).setCell (p := ⟨bb, 11, none⟩) (by show pb ≤ bb; omega) _⟩

set_option maxRecDepth 100000 in
set_option maxHeartbeats 1000000 in
theorem unlock_busy (B nb pb gb db bb ob : Nat) (nm : ByteArray) (n : Nat) (h : Nat → ByteArray) (p d : Nat) (w : World) (s : St w B nb pb gb db bb ob nm n h 1 true p d) :
    Calls Yba.prog 8 #[.pointer (some ⟨bb, 0, none⟩), .bool true] w fun e w' => e = .returned (.tuple #[]) ∧ St w' B nb pb gb db bb ob nm n h 0 true p d ∧ Below pb w w' := by
  have hord := s.ord
  go_enter Yba.func8, Yba.ntmps8
  go_wp2_with fail
  refine (Go.MuLone.unlock_held muLib ⟨bb, 11, none⟩ _ s.lock s.lockf).mono ?_
  rintro e w2 ⟨rfl, rfl⟩
  go_wp2_with fail
  refine (report_busy B nb pb gb db bb ob nm n h p d _ (s.setLock 0)).mono ?_
  rintro e w3 ⟨rfl, s3, hb3⟩
  go_wp2_with fail
  go_end0
  exact ⟨rfl, s3, ((Below.refl pb w).setCell (p := ⟨bb, 11, none⟩) (by show pb ≤ bb; omega) _).trans hb3⟩

set_option maxRecDepth 100000 in
set_option maxHeartbeats 1000000 in
theorem unlock_all (B nb pb gb db bb ob : Nat) (nm : ByteArray) (n : Nat) (h : Nat → ByteArray) (w : World) (hn : n ≤ 65536) (s : St w B nb pb gb db bb ob nm n h 1 false 0 0) :
    Calls Yba.prog 8 #[.pointer (some ⟨bb, 0, none⟩), .bool true] w fun e w' => e = .returned (.tuple #[]) ∧ St w' B nb pb gb db bb ob nm n h 0 false n n ∧ Below pb w w' := by
  have hord := s.ord
  go_enter Yba.func8, Yba.ntmps8
  go_wp2_with fail
  refine (Go.MuLone.unlock_held muLib ⟨bb, 11, none⟩ _ s.lock s.lockf).mono ?_
  rintro e w2 ⟨rfl, rfl⟩
  go_wp2_with fail
  refine (report_all B nb pb gb db bb ob nm n h _ hn (s.setLock 0)).mono ?_
  rintro e w3 ⟨rfl, s3, hb3⟩
  go_wp2_with fail
  go_end0
  exact ⟨rfl, s3, ((Below.refl pb w).setCell (p := ⟨bb, 11, none⟩) (by show pb ≤ bb; omega) _).trans hb3⟩
end Go.Proofs.Ybulkebne
