import Derived.Test.YbulkeblaASo
/-! slices.Clone at runs (8), at held spans (16). -/
namespace Go.Proofs.Ybulkebla
open Go.Shelf Go.RowKit Go.Lib
set_option linter.unusedVariables false
set_option linter.unusedSectionVars false
variable [Inhabited Rn] [Inhabited Hs] [Inhabited Sc]

theorem fl_cells {α : Type} [Inhabited α] (enc : α → List Value) (h1 : ∀ x, ∀ v ∈ enc x, v.oneCell' = true) (d : List α) : ∀ u ∈ fl enc d, u.oneCell' = true := by
  intro u hu
  obtain ⟨l, hl, hu2⟩ := List.mem_flatten.1 hu
  obtain ⟨x, _, rfl⟩ := List.mem_map.1 hl
  exact h1 x u hu2
theorem one_run (x : Rn) : ∀ v ∈ Rn.enc x, v.oneCell' = true := fun v hv => by simp [Rn.enc] at hv; rcases hv with rfl | rfl | rfl | rfl <;> rfl
theorem one_span (x : Hs) : ∀ v ∈ Hs.enc x, v.oneCell' = true := fun v hv => by simp [Hs.enc] at hv; rcases hv with rfl | rfl | rfl <;> rfl

theorem cloneRunOwn (B : Nat) (v : Value) (d : List Rn) (w : World) (hsz : d.length ≤ 1048576) (h : w.ownsRow B 29 4 v d.length (fl Rn.enc d)) :
    Calls Yba.prog 8 #[v] w fun e w' => ∃ v', e = .returned v' ∧ w'.ownsRow w.heap.size 29 4 v' d.length (fl Rn.enc d) ∧ Below w.heap.size w w' := by
  have hk : ∀ x : Rn, (Rn.enc x).length = 4 := fun _ => rfl
  rcases Joins.ownsRow_forms h with ⟨rfl, h0⟩ | ⟨g, cap, rfl⟩
  · refine (AnyE.slices_Clone_nil Yba.cloneRun8 0 0 w).mono ?_
    rintro e w' ⟨rfl, rfl⟩
    have : d = [] := List.length_eq_zero_iff.1 h0
    subst this
    exact ⟨_, rfl, World.ownsRow_nil _ _ _ _, Below.refl _ _⟩
  · refine (AnyE.slices_Clone Yba.cloneRun8 Yba.t29 (.agg #[.string { data := #[] }, .int .i64 0, .int .i64 0, .int .i64 0]) 4 40 (by kernel_rfl) (by kernel_rfl) (by kernel_rfl) (by kernel_rfl) rfl (by decide) size29
      g 0 d.length cap (fl Rn.enc d) w (fl_len Rn.enc 4 hk d) (by unfold maxLen; omega) (by omega) (fun j u hj => ?_) (fl_cells Rn.enc one_run d)).mono ?_
    · rw [Nat.zero_add]
      have hj2 : j < d.length * 4 := by have := (List.getElem?_eq_some_iff.1 hj).1; rw [fl_len Rn.enc 4 hk] at this; exact this
      rw [h.cellAt j hj2]; exact hj
    · rintro e w' ⟨v', rfl, ho, _, hb⟩
      exact ⟨v', rfl, ho, hb⟩

theorem cloneSpanOwn (B : Nat) (v : Value) (d : List Hs) (w : World) (hsz : d.length ≤ 1048576) (h : w.ownsRow B 35 3 v d.length (fl Hs.enc d)) :
    Calls Yba.prog 16 #[v] w fun e w' => ∃ v', e = .returned v' ∧ w'.ownsRow w.heap.size 35 3 v' d.length (fl Hs.enc d) ∧ Below w.heap.size w w' := by
  have hk : ∀ x : Hs, (Hs.enc x).length = 3 := fun _ => rfl
  rcases Joins.ownsRow_forms h with ⟨rfl, h0⟩ | ⟨g, cap, rfl⟩
  · refine (AnyE.slices_Clone_nil Yba.cloneSpan16 0 0 w).mono ?_
    rintro e w' ⟨rfl, rfl⟩
    have : d = [] := List.length_eq_zero_iff.1 h0
    subst this
    exact ⟨_, rfl, World.ownsRow_nil _ _ _ _, Below.refl _ _⟩
  · refine (AnyE.slices_Clone Yba.cloneSpan16 Yba.t35 (.agg #[.int .i64 0, .int .i64 0, .int .i32 0]) 3 24 (by kernel_rfl) (by kernel_rfl) (by kernel_rfl) (by kernel_rfl) rfl (by decide) size35
      g 0 d.length cap (fl Hs.enc d) w (fl_len Hs.enc 3 hk d) (by unfold maxLen; omega) (by omega) (fun j u hj => ?_) (fl_cells Hs.enc one_span d)).mono ?_
    · rw [Nat.zero_add]
      have hj2 : j < d.length * 3 := by have := (List.getElem?_eq_some_iff.1 hj).1; rw [fl_len Hs.enc 3 hk] at this; exact this
      rw [h.cellAt j hj2]; exact hj
    · rintro e w' ⟨v', rfl, ho, _, hb⟩
      exact ⟨v', rfl, ho, hb⟩

end Go.Proofs.Ybulkebla
