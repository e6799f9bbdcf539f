import Derived.Test.YbulkebneAKit
import Derived.OneCell
import Derived.Lib.SmallJoins
/-! For LawS6400AWhole: what lies in memory while the changes are reported; the law's closure (6). -/
namespace Go.Proofs.Ybulkebne
open Go.RowKit
set_option linter.unusedVariables false

def cl (h : Nat → ByteArray) (d : Nat) : List Value := (List.range (d * 2)).map fun k => Value.string (h k)
theorem cl_len (h : Nat → ByteArray) (d : Nat) : (cl h d).length = d * 2 := by simp [cl]
theorem cl_get (h : Nat → ByteArray) (d j : Nat) (hj : j < d * 2) : (cl h d)[j]? = some (.string (h j)) := by simp [cl, hj]
theorem cl_succ (h : Nat → ByteArray) (d : Nat) : cl h d ++ [.string (h (d * 2)), .string (h (d * 2 + 1))] = cl h (d + 1) := by
  simp [cl, Nat.add_mul, List.range_succ]

structure St (w : World) (B nb pb gb db bb ob : Nat) (nm : ByteArray) (n : Nat) (h : Nat → ByteArray) (lk : Int) (rp : Bool) (p d : Nat) : Prop where
  name : w.cell? ⟨nb, 0, none⟩ = some (.string nm)
  bad : w.cell? ⟨db, 0, none⟩ = some (.bool false)
  opt : w.cell? ⟨bb, 1, none⟩ = some (.pointer (some ⟨ob, 0, none⟩))
  bname : w.cell? ⟨bb, 6, none⟩ = some (.string nm)
  lock : w.cell? ⟨bb, 11, none⟩ = some (.int .i32 lk)
  lockf : w.frozen? ⟨bb, 11, none⟩ = false
  cb : w.cell? ⟨ob, 11, none⟩ = some (.func (.func 6) #[] #[.pointer (some ⟨nb, 0, none⟩), .pointer (some ⟨db, 0, none⟩), .pointer (some ⟨gb, 0, none⟩)])
  pend : w.cell? ⟨ob, 12, none⟩ = some (.slice (some ⟨pb, 0, none⟩) (n - p) n)
  pendf : w.frozen? ⟨ob, 12, none⟩ = false
  rep : w.cell? ⟨ob, 13, none⟩ = some (.bool rp)
  repf : w.frozen? ⟨ob, 13, none⟩ = false
  row : ∀ j, j < (n - p) * 2 → w.cell? ⟨pb, j, none⟩ = some (.string (h (p * 2 + j)))
  rowc : ∀ j, j < n * 2 → (w.cell? ⟨pb, j, none⟩).isSome = true
  rowf : ∀ j, j < n * 2 → w.frozen? ⟨pb, j, none⟩ = false
  got : ∃ v, w.cell? ⟨gb, 0, none⟩ = some v ∧ w.ownsRow B 27 2 v d (cl h d)
  gotf : w.frozen? ⟨gb, 0, none⟩ = false
  ord : nb < pb ∧ pb < gb ∧ gb < db ∧ db < bb ∧ bb < ob ∧ ob < B ∧ B ≤ w.heap.size

/-- Where all below B but got's box stands as it did. -/
theorem St.keep {w w' : World} {B nb pb gb db bb ob : Nat} {nm : ByteArray} {n : Nat} {h : Nat → ByteArray} {lk : Int} {rp : Bool} {p d d' : Nat} (s : St w B nb pb gb db bb ob nm n h lk rp p d)
    (hc : ∀ b o, b < B → b ≠ gb → w'.cell? ⟨b, o, none⟩ = w.cell? ⟨b, o, none⟩) (hf : ∀ b o, b < B → w'.frozen? ⟨b, o, none⟩ = w.frozen? ⟨b, o, none⟩) (hz : w.heap.size ≤ w'.heap.size)
    (hg : ∃ v, w'.cell? ⟨gb, 0, none⟩ = some v ∧ w'.ownsRow B 27 2 v d' (cl h d')) : St w' B nb pb gb db bb ob nm n h lk rp p d' := by
  obtain ⟨o1, o2, o3, o4, o5, o6, o7⟩ := s.ord
  exact ⟨(hc nb 0 (by omega) (by omega)).trans s.name, (hc db 0 (by omega) (by omega)).trans s.bad, (hc bb 1 (by omega) (by omega)).trans s.opt, (hc bb 6 (by omega) (by omega)).trans s.bname, (hc bb 11 (by omega) (by omega)).trans s.lock,
    (hf bb 11 (by omega)).trans s.lockf, (hc ob 11 (by omega) (by omega)).trans s.cb, (hc ob 12 (by omega) (by omega)).trans s.pend, (hf ob 12 (by omega)).trans s.pendf, (hc ob 13 (by omega) (by omega)).trans s.rep, (hf ob 13 (by omega)).trans s.repf,
    fun j hj => (hc pb j (by omega) (by omega)).trans (s.row j hj), fun j hj => by rw [hc pb j (by omega) (by omega)]; exact s.rowc j hj, fun j hj => (hf pb j (by omega)).trans (s.rowf j hj), hg, (hf gb 0 (by omega)).trans s.gotf, o1, o2, o3, o4, o5, o6, by omega⟩

theorem St.below {w w' : World} {B nb pb gb db bb ob : Nat} {nm : ByteArray} {n : Nat} {h : Nat → ByteArray} {lk : Int} {rp : Bool} {p d : Nat} (s : St w B nb pb gb db bb ob nm n h lk rp p d) (hb : Below w.heap.size w w') : St w' B nb pb gb db bb ob nm n h lk rp p d := by
  have hB : B ≤ w.heap.size := s.ord.2.2.2.2.2.2
  have hgB : gb < B := by have := s.ord; omega
  obtain ⟨v, hv, ho⟩ := s.got
  refine s.keep (fun b o hb' _ => hb.cell (p := ⟨b, o, none⟩) (by show b < _; omega)) (fun b o hb' => hb.frozen (p := ⟨b, o, none⟩) (by show b < _; omega)) hb.size ⟨v, (hb.cell (p := ⟨gb, 0, none⟩) (by show gb < _; omega)).trans hv, ?_⟩
  obtain ⟨h1, h2⟩ := ho
  refine ⟨h1, ?_⟩
  rcases h2 with h2 | ⟨g, cap, cur, e1, e2, e3, e4⟩
  · exact .inl h2
  · exact .inr ⟨g, cap, cur, e1, e2, by rw [hb.block g (Array.getElem?_eq_some_iff.1 e3).1]; exact e3, e4⟩

theorem info27 : Yba.prog.info? 27 = some Yba.t27 := by kernel_rfl

set_option maxRecDepth 100000 in
set_option maxHeartbeats 1000000 in
theorem closure6 (B nb pb gb db bb ob : Nat) (nm : ByteArray) (n : Nat) (h : Nat → ByteArray) (lk : Int) (rp : Bool) (p d : Nat) (w : World) (hd : d ≤ 65536) (s : St w B nb pb gb db bb ob nm n h lk rp p d) :
    Calls Yba.prog 6 #[.string nm, .string (h (d * 2)), .string (h (d * 2 + 1)), .pointer (some ⟨nb, 0, none⟩), .pointer (some ⟨db, 0, none⟩), .pointer (some ⟨gb, 0, none⟩)] w fun e w' =>
      e = .returned (.tuple #[]) ∧ St w' B nb pb gb db bb ob nm n h lk rp p (d + 1) ∧ Below pb w w' ∧ ∀ v, w.cell? ⟨gb, 0, none⟩ = some v → ∀ k, k < w.heap.size → k ≠ gb → v.ownBlock ≠ some k → w'.heap[k]? = w.heap[k]? := by
  have hname := s.name
  have hgf := s.gotf
  have hord := s.ord
  obtain ⟨v, hv, ho⟩ := s.got
  obtain ⟨o1, o2, o3, o4, o5, o6, o7⟩ := hord
  have hgz : gb < w.heap.size := by omega
  go_enter Yba.func6, Yba.ntmps6
  go_wp2_with (at_builtin; refine wpList_append_own _ rfl _ _ 23 rfl B 27 Yba.t27 (.agg #[.string { data := #[] }, .string { data := #[] }]) 2 32 Yba.underlying23 info27 rfl rfl rfl rfl (by decide) _ _ _ rfl (ho.alloc _) ⟨w.heap.size, 0, none⟩ 1 1 [.string (h (d * 2)), .string (h (d * 2 + 1))] rfl ?qc1 ?qc2 ?qc3 ?qc4 ?qc5 ?qc6 ?_)
  case qc1 => rfl
  case qc2 =>
    intro j u hj
    rw [Addr.add_lit, Nat.zero_add, World.cell?_alloc_new]
    simpa using hj
  case qc3 => intro u hu; simp at hu; rcases hu with rfl | rfl <;> rfl
  case qc4 => unfold maxLen; omega
  case qc5 => omega
  case qc6 => simp; omega
  intro v' w1 hown hgrow hnil
  have hb1 : Below B w w1 := ((Below.refl B w).alloc o7 _).grown hgrow (by simp; omega) (fun k hk => by
    rcases ho.2 with ⟨e1, _⟩ | ⟨g, cap, cur, e1, e2, _⟩
    · rw [e1] at hk; simp [Value.ownBlock] at hk
    · rw [e1] at hk; simp [Value.ownBlock] at hk; omega)
  have hg1 : w1.cell? ⟨gb, 0, none⟩ = some v := (hb1.cell (p := ⟨gb, 0, none⟩) (by show gb < B; omega)).trans hv
  have hg2 : w1.frozen? ⟨gb, 0, none⟩ = false := (hb1.frozen (p := ⟨gb, 0, none⟩) (by show gb < B; omega)).trans hgf
  rw [cl_succ] at hown
  obtain ⟨g, cap, rfl⟩ := Joins.ownsRow_form hown (by omega)
  go_wp2
  go_end0
  refine ⟨rfl, s.keep (fun b o hb hn => ?_) (fun b o hb => ?_) (by have := hb1.size; simp; omega) ⟨_, World.cell?_setCell_same _ _ _ hg1, ownsRow_setCell_below hown (a := ⟨gb, 0, none⟩) (by show gb < B; omega) _⟩, (hb1.mono (by omega)).setCell (p := ⟨gb, 0, none⟩) (by show pb ≤ gb; omega) _, ?_⟩
  · rw [World.cell?_setCell_other _ _ _ _ (by intro e; cases e; exact hn rfl)]; exact hb1.cell (p := ⟨b, o, none⟩) hb
  · rw [World.frozen?_setCell]; exact hb1.frozen (p := ⟨b, o, none⟩) hb
  · intro v2 hv2 k hk hkg hko
    rw [hv] at hv2
    cases hv2
    rw [Below.heap_setCell _ _ _ _ hkg, hgrow.block k (by simp; omega) (fun e => hko e.symm), Below.heap_alloc _ _ _ hk]

theorem own_lt {w : World} {B : Nat} {v : Value} {d : Nat} {xs : List Value} (h : w.ownsRow B 27 2 v d xs) (k : Nat) (hk : w.heap.size ≤ k) : v.ownBlock ≠ some k := by
  intro e
  rcases h.2 with ⟨e1, _⟩ | ⟨g, cap, cur, e1, _, e3, _⟩
  · rw [e1] at e; simp [Value.ownBlock] at e
  · rw [e1] at e; simp [Value.ownBlock] at e
    have := (Array.getElem?_eq_some_iff.1 e3).1
    omega
end Go.Proofs.Ybulkebne
