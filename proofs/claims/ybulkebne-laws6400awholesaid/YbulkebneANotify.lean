import Derived.Test.YbulkebneASt
import Derived.Defers
import Derived.StillTailTactics
/-! (*Breaker).notify (22) and what it defers (31). -/
namespace Go.Proofs.Ybulkebne
open Go.RowKit
set_option linter.unusedVariables false

set_option maxRecDepth 100000 in
set_option maxHeartbeats 400000 in
theorem deferred31 (rb bx : Addr) (u : FrameMode) (w : World) (hr : w.cell? rb = some (.bool true)) :
    CallsD Yba.prog 31 #[.pointer (some rb), .pointer (some bx)] u w fun e u' w' => u' = u ∧ (e = .returned (.tuple #[]) ∧ w' = w) := by
  go_enter_d Yba.func31, Yba.ntmps31
  go_wp2
  go_end0
  exact ⟨rfl, rfl⟩

theorem third_cell (w : World) (o1 o2 : Obj) (c : Array Value) (t : TypeId) (i : Nat) : (((w.alloc o1).alloc o2).alloc (.cells c t)).drew.cell? ⟨w.heap.size + 1 + 1, i, none⟩ = c[i]? := by
  have e : w.heap.size + 1 + 1 = ((w.alloc o1).alloc o2).heap.size := by simp
  rw [e]
  exact World.cell?_alloc_new _ c t i
theorem third_frozen (w : World) (o1 o2 : Obj) (c : Array Value) (t : TypeId) (i : Nat) : (((w.alloc o1).alloc o2).alloc (.cells c t)).drew.frozen? ⟨w.heap.size + 1 + 1, i, none⟩ = false := by
  have e : w.heap.size + 1 + 1 = ((w.alloc o1).alloc o2).heap.size := by simp
  exact World.frozen?_alloc_at (w := (w.alloc o1).alloc o2) c t _ i e

theorem third_heap (w : World) (o1 o2 : Obj) (c : Array Value) (t : TypeId) : (((w.alloc o1).alloc o2).alloc (.cells c t)).drew.heap[w.heap.size + 1 + 1]? = some (.cells c t) := by
  have e : w.heap.size + 1 + 1 = ((w.alloc o1).alloc o2).heap.size := by simp
  rw [e]; exact Array.getElem?_push_size

theorem St.setOther {w : World} {B nb pb gb db bb ob : Nat} {nm : ByteArray} {n : Nat} {h : Nat → ByteArray} {lk : Int} {rp : Bool} {p d : Nat} (s : St w B nb pb gb db bb ob nm n h lk rp p d) {a : Addr} (ha : B ≤ a.block) {c : Array Value} {t : TypeId} {fz : Nat × Nat}
    (hh : w.heap[a.block]? = some (.cells c t fz)) (ht : t ≠ 27) (u : Value) : St (w.setCell a u) B nb pb gb db bb ob nm n h lk rp p d := by
  obtain ⟨v, hv, ho⟩ := s.got
  have hgB : gb < B := by have := s.ord; omega
  have hne : ∀ b o, b < B → a ≠ ⟨b, o, none⟩ := fun b o hb e => by rw [e] at ha; exact absurd hb (by show ¬ b < B; have : B ≤ b := ha; omega)
  refine s.keep (fun b o hb _ => World.cell?_setCell_other _ _ _ _ (hne b o hb)) (fun b o hb => World.frozen?_setCell _ _ _ _) (by simp) ⟨v, (World.cell?_setCell_other _ _ _ _ (hne gb 0 hgB)).trans hv, ownsRow_setCell_other ho ?_ u⟩
  intro e
  rcases ho.2 with ⟨e1, _⟩ | ⟨g, cap, cur, e1, _, e3, _⟩
  · rw [e1] at e; simp [Value.ownBlock] at e
  · rw [e1] at e; simp [Value.ownBlock] at e
    subst e
    rw [hh] at e3
    cases e3
    exact ht rfl

set_option maxRecDepth 100000 in
set_option maxHeartbeats 1000000 in
theorem notify_any (B nb pb gb db bb ob : Nat) (nm : ByteArray) (n : Nat) (h : Nat → ByteArray) (lk : Int) (rp : Bool) (p d : Nat) (w : World) (hd : d ≤ 65536) (s : St w B nb pb gb db bb ob nm n h lk rp p d) :
    Calls Yba.prog 22 #[.pointer (some ⟨bb, 0, none⟩), .agg #[.string (h (d * 2)), .string (h (d * 2 + 1))]] w fun e w' =>
      e = .returned (.tuple #[]) ∧ St w' B nb pb gb db bb ob nm n h lk rp p (d + 1) ∧ Below pb w w' := by
  have hmf : ∀ (fn : Fn) (first cap : Array Value) (w : World), (Instr.makeFunc fn first cap).run Yba.prog w = .ok (.func fn first cap) w := fun _ _ _ _ => rfl
  have c1 := s.opt
  have c2 := s.bname
  have c3 := s.cb
  have hord := s.ord
  obtain ⟨v, hv, ho⟩ := s.got
  have z1 : bb < w.heap.size := by omega
  have z2 : ob < w.heap.size := by omega
  have z3 : bb < w.heap.size + 1 := by omega
  have z4 : ob < w.heap.size + 1 := by omega
  have z5 : bb < w.heap.size + 1 + 1 := by omega
  have z6 : ob < w.heap.size + 1 + 1 := by omega
  go_enter_defers Yba.func22, Yba.ntmps22
  go_wp2
  refine wp_region_still_tail 15 (by kernel_rfl) (by kernel_rfl) ?_
  change wpStill _ _ (World.drew _) _ _ _
  simp only [List.take_succ_cons, List.take_zero, List.drop_succ_cons, List.drop_zero]
  repeat still_step
  refine wpStill_nil ?_
  have hb3 : Below w.heap.size w (((w.alloc (.cells #[.pointer (some ⟨bb, 0, none⟩)] 28)).alloc (.cells #[.string (h (d * 2)), .string (h (d * 2 + 1))] 27)).alloc (.cells #[.bool false] 4)).drew := ((((Below.refl _ w).alloc (Nat.le_refl _) _).alloc (by simp) _).alloc (by simp; omega) _).drew
  have s3 := s.below hb3
  have hg3 := (hb3.cell (p := ⟨gb, 0, none⟩) (by show gb < w.heap.size; omega)).trans hv
  go_wp2_with fail
  refine (closure6 B nb pb gb db bb ob nm n h lk rp p d _ hd s3).mono ?_
  rintro e w1 ⟨rfl, s4, hb4, hk4⟩
  have hk := hk4 v hg3 (w.heap.size + 1 + 1) (by simp) (by omega) (own_lt ho _ (by omega))
  have r1 : w1.cell? ⟨w.heap.size + 1 + 1, 0, none⟩ = some (.bool false) := (World.cell?_of_block (a := ⟨w.heap.size + 1 + 1, 0, none⟩) hk).trans (third_cell w _ _ _ _ 0)
  have r2 : w1.frozen? ⟨w.heap.size + 1 + 1, 0, none⟩ = false := (World.frozen?_of_block (a := ⟨w.heap.size + 1 + 1, 0, none⟩) hk).trans (third_frozen w _ _ _ _ 0)
  have hsz1 : w.heap.size + 1 + 1 < w1.heap.size := by have := hb4.size; simp at this; omega
  go_wp2_with fail
  refine leaves_cons (f := 31) (args := #[.pointer (some ⟨w.heap.size + 1 + 1, 0, none⟩), .pointer (some ⟨w.heap.size, 0, none⟩)]) (by simp) (by simp [go_sem]) ?_
  refine (deferred31 ⟨w.heap.size + 1 + 1, 0, none⟩ ⟨w.heap.size, 0, none⟩ .returning _ (World.cell?_setCell_same _ _ _ r1)).mono ?_
  rintro e u' w'' ⟨rfl, rfl, rfl⟩
  refine ⟨_, results_none rfl _ _ _, rfl, ?_, ?_⟩
  · exact s4.setOther (a := ⟨w.heap.size + 1 + 1, 0, none⟩) (by show B ≤ w.heap.size + 1 + 1; omega) (hk.trans (third_heap w _ _ _ _)) (by decide) _
  · exact ((hb3.mono (by omega)).trans hb4).setCell (p := ⟨w.heap.size + 1 + 1, 0, none⟩) (by show pb ≤ w.heap.size + 1 + 1; omega) _
end Go.Proofs.Ybulkebne
