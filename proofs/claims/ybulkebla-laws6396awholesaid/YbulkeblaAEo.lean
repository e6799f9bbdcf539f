import Derived.Test.YbulkeblaAEq
import Derived.Test.YbulkeblaAIx
import Derived.Test.YbulkeblaAClo
import Derived.Test.YbulkeblaASf
import Derived.Test.YbulkeblaARank
/-! slices.Equal at own rows that read alike; bounds. -/
namespace Go.Proofs.Ybulkebla
open Go.RowKit Go.Lib
set_option linter.unusedVariables false
set_option linter.unusedSectionVars false
variable [Inhabited Rn] [Inhabited Hs] [Inhabited Sc]
def Sp.enc (s : Sp) : List Value := [.int .i64 s.first, .int .i64 s.last]
theorem spc_fl (l : List Sp) : spc l = fl Sp.enc l := by
  induction l with
  | nil => rfl
  | cons s l ih => simp [spc, fl, Sp.enc, ih]

theorem KRow.congr {w : World} {k : Nat} {a : Option Addr} {n : Nat} {X Y : Nat → Nat → Value} (h : KRow w k a n X) (e : ∀ t, t < n → ∀ j, j < k → X t j = Y t j) : KRow w k a n Y := by
  rcases h with h | ⟨b, off, h1, h2⟩
  · exact .inl h
  · exact .inr ⟨b, off, h1, fun t ht j hj => by rw [h2 t ht j hj, e t ht j hj]⟩
theorem krow_own {α : Type} [Inhabited α] (enc : α → List Value) (k : Nat) (hk : ∀ x, (enc x).length = k) {w : World} {B : Nat} {e : TypeId} {v : Value} {d : List α} (h : w.ownsRow B e k v d.length (fl enc d)) :
    ∃ a c, v = .slice a d.length c ∧ KRow w k a d.length (fun t j => (enc (d.getD t default)).getD j (.bool false)) := by
  rcases Joins.ownsRow_forms h with ⟨rfl, h0⟩ | ⟨g, cap, rfl⟩
  · exact ⟨none, 0, by rw [h0], .inl h0⟩
  · refine ⟨some ⟨g, 0, none⟩, cap, rfl, .inr ⟨g, 0, rfl, fun t ht j hj => ?_⟩⟩
    rw [Nat.zero_add, h.cellAt _ (by
      have h1 : (t + 1) * k ≤ d.length * k := Nat.mul_le_mul_right _ ht
      rw [Nat.add_mul] at h1
      omega), fl_at enc k hk d t j ht hj]
    have hj2 : j < (enc (d.getD t default)).length := by rw [hk]; exact hj
    show _ = some ((enc (d.getD t default)).getD j (.bool false))
    generalize enc (d.getD t default) = l at hj2 ⊢
    rw [List.getD_eq_getElem?_getD, List.getElem?_eq_getElem hj2]; rfl

theorem equal11Own (B1 B2 : Nat) (v1 v2 : Value) (d : List Rn) (w : World) (hn : d.length ≤ 1048576) (h1 : w.ownsRow B1 29 4 v1 d.length (fl Rn.enc d)) (h2 : w.ownsRow B2 29 4 v2 d.length (fl Rn.enc d)) :
    Calls Yba.prog 11 #[v1, v2] w fun e w' => e = .returned (.bool true) ∧ ∃ q, w' = w.drewN q := by
  obtain ⟨a1, c1, rfl, k1⟩ := krow_own Rn.enc 4 (fun _ => rfl) h1
  obtain ⟨a2, c2, rfl, k2⟩ := krow_own Rn.enc 4 (fun _ => rfl) h2
  have e : ∀ t, t < d.length → ∀ j, j < 4 → (Rn.enc (d.getD t default)).getD j (.bool false) = (if j = 0 then .string (nm (d.getD t default).id) else if j = 1 then .int .i64 (d.getD t default).id else if j = 2 then .int .i64 (d.getD t default).first else .int .i64 (d.getD t default).count : Value) := fun t _ j hj => by
    rcases j with _ | _ | _ | _ | j
    · rfl
    · rfl
    · rfl
    · rfl
    · omega
  exact equal11 d.length a1 a2 c1 c2 (fun t => nm (d.getD t default).id) (fun t => (d.getD t default).id) (fun t => (d.getD t default).first) (fun t => (d.getD t default).count) w hn (k1.congr e) (k2.congr e)
theorem equal14Own (B1 B2 : Nat) (v1 v2 : Value) (d : List Sc) (w : World) (hn : d.length ≤ 1048576) (h1 : w.ownsRow B1 56 2 v1 d.length (fl Sc.enc d)) (h2 : w.ownsRow B2 56 2 v2 d.length (fl Sc.enc d)) :
    Calls Yba.prog 14 #[v1, v2] w fun e w' => e = .returned (.bool true) ∧ ∃ q, w' = w.drewN q := by
  obtain ⟨a1, c1, rfl, k1⟩ := krow_own Sc.enc 2 (fun _ => rfl) h1
  obtain ⟨a2, c2, rfl, k2⟩ := krow_own Sc.enc 2 (fun _ => rfl) h2
  have e : ∀ t, t < d.length → ∀ j, j < 2 → (Sc.enc (d.getD t default)).getD j (.bool false) = (if j = 0 then .int .i64 (((d.getD t default).id : Nat) : Int) else .int .i64 (d.getD t default).items : Value) := fun t _ j hj => by
    rcases j with _ | _ | j
    · rfl
    · rfl
    · omega
  exact equal14 d.length a1 a2 c1 c2 (fun t => (((d.getD t default).id : Nat) : Int)) (fun t => (d.getD t default).items) w hn (k1.congr e) (k2.congr e)
theorem equal15Own (B1 B2 : Nat) (v1 v2 : Value) (d : List Sp) (w : World) (hn : d.length ≤ 1048576) (h1 : w.ownsRow B1 33 2 v1 d.length (spc d)) (h2 : w.ownsRow B2 33 2 v2 d.length (spc d)) :
    Calls Yba.prog 15 #[v1, v2] w fun e w' => e = .returned (.bool true) ∧ ∃ q, w' = w.drewN q := by
  haveI : Inhabited Sp := ⟨⟨0, 0⟩⟩
  rw [spc_fl] at h1 h2
  obtain ⟨a1, c1, rfl, k1⟩ := krow_own Sp.enc 2 (fun _ => rfl) h1
  obtain ⟨a2, c2, rfl, k2⟩ := krow_own Sp.enc 2 (fun _ => rfl) h2
  have e : ∀ t, t < d.length → ∀ j, j < 2 → (Sp.enc (d.getD t default)).getD j (.bool false) = (if j = 0 then .int .i64 (d.getD t default).first else .int .i64 (d.getD t default).last : Value) := fun t _ j hj => by
    rcases j with _ | _ | j
    · rfl
    · rfl
    · omega
  exact equal15 d.length a1 a2 c1 c2 (fun t => (d.getD t default).first) (fun t => (d.getD t default).last) w hn (k1.congr e) (k2.congr e)
theorem equal19Own (B1 B2 : Nat) (v1 v2 : Value) (d : List Hs) (w : World) (hn : d.length ≤ 1048576) (h1 : w.ownsRow B1 35 3 v1 d.length (fl Hs.enc d)) (h2 : w.ownsRow B2 35 3 v2 d.length (fl Hs.enc d)) :
    Calls Yba.prog 19 #[v1, v2] w fun e w' => e = .returned (.bool true) ∧ ∃ q, w' = w.drewN q := by
  obtain ⟨a1, c1, rfl, k1⟩ := krow_own Hs.enc 3 (fun _ => rfl) h1
  obtain ⟨a2, c2, rfl, k2⟩ := krow_own Hs.enc 3 (fun _ => rfl) h2
  have e : ∀ t, t < d.length → ∀ j, j < 3 → (Hs.enc (d.getD t default)).getD j (.bool false) = (if j = 0 then .int .i64 (d.getD t default).first else if j = 1 then .int .i64 (d.getD t default).last else .int .i32 (d.getD t default).peer : Value) := fun t _ j hj => by
    rcases j with _ | _ | _ | j
    · rfl
    · rfl
    · rfl
    · omega
  exact equal19 d.length a1 a2 c1 c2 (fun t => (d.getD t default).first) (fun t => (d.getD t default).last) (fun t => (d.getD t default).peer) w hn (k1.congr e) (k2.congr e)

theorem nodup_sub : ∀ {l m : List Int}, l.Nodup → (∀ x ∈ l, x ∈ m) → l.length ≤ m.length
  | [], _, _, _ => by simp
  | x :: l, m, h, hs => by
    rw [List.nodup_cons] at h
    have hx := hs x List.mem_cons_self
    have h1 := nodup_sub (l := l) (m := m.erase x) h.2 (fun y hy => by
      have hne : y ≠ x := fun e => h.1 (e ▸ hy)
      exact (List.mem_erase_of_ne hne).2 (hs y (List.mem_cons_of_mem _ hy)))
    have h2 := List.length_erase_of_mem hx
    have h3 := List.length_pos_of_mem hx
    simp only [List.length_cons]
    omega
/-- No more spans than runs. -/
theorem merge_len {d : List Rn} {acc : List Sp} (h : MergeInv (rsp d) acc) : acc.length ≤ d.length := by
  have h1 : (acc.map Sp.first).Nodup := by
    rw [List.Nodup, List.pairwise_map]
    refine (h.nf.1).imp_of_mem (fun {a b} ha hb hab e => ?_)
    have := h.nf.2 a ha
    omega
  have h2 := nodup_sub (l := acc.map Sp.first) (m := d.map Rn.first) h1 (fun x hx => by
    obtain ⟨s, hs, rfl⟩ := List.mem_map.1 hx
    obtain ⟨r, hr, e⟩ := h.top s hs
    obtain ⟨r2, hr2, rfl⟩ := List.mem_map.1 hr
    exact List.mem_map.2 ⟨r2, hr2, e.symm⟩)
  simpa using h2

end Go.Proofs.Ybulkebla
