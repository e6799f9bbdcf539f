import Derived.Test.YbulkeblaABr
/-! sortRuns (30) at an own row; slices.Clone (8, 16); zzs6396aorder (12). -/
namespace Go.Proofs.Ybulkebla
open Go.Shelf Go.RowKit Go.Lib
set_option linter.unusedVariables false
set_option linter.unusedSectionVars false
variable [Inhabited Rn] [Inhabited Hs] [Inhabited Sc]

theorem perm_list {α : Type} [Inhabited α] {d d' : Array α} (h : Sort.PermIn 0 d.size d d') : d'.toList.Perm d.toList := by
  have h1 := h.2.2
  have e1 : d.extract 0 d.size = d := by simp
  have e2 : d'.extract 0 d.size = d' := by rw [← h.1]; simp
  rw [e1, e2] at h1
  exact h1

def Asc1 (d : List Rn) : Prop := ∀ i j, i < j → j < d.length → (d.getD i default).first ≤ (d.getD j default).first

theorem getD_arr {α : Type} [Inhabited α] (d : Array α) (i : Nat) (h : i < d.size) : d[i]! = d.toList.getD i default := by
  rw [getElem!_pos d _ h, List.getD_eq_getElem?_getD, Array.getElem?_toList, Array.getElem?_eq_getElem h]; rfl

theorem asc_of {d : Array Rn} (h : Sort.SortedIn ltFirst 0 d.size d) : Asc1 d.toList := by
  intro i j hij hj
  have hj2 : j < d.size := by simpa using hj
  have := h i j (Nat.zero_le _) hij hj2
  rw [← getD_arr d i (by omega), ← getD_arr d j hj2]
  simp only [ltFirst, decide_eq_false_iff_not] at this
  omega

theorem kept_none {w w' : World} {B : Nat} {e : TypeId} {k : Nat} {v : Value} {n : Nat} {xs : List Value} (h : w.ownsRow B e k v n xs) (hg : w.grownBy w' none) : w'.ownsRow B e k v n xs :=
  h.kept hg (by cases v.ownBlock with | none => exact .inl rfl | some g => exact .inr (by simp))

set_option maxHeartbeats 1000000 in
set_option maxRecDepth 100000 in
theorem sortRunsOwn (B : Nat) (v : Value) (d : List Rn) (w : World) (hsz : d.length ≤ 1048576) (h : w.ownsRow B 29 4 v d.length (fl Rn.enc d)) :
    Calls Yba.prog 30 #[v] w fun e w' => e = .returned (.tuple #[]) ∧ ∃ d', d'.Perm d ∧ Asc1 d' ∧ w'.ownsRow B 29 4 v d.length (fl Rn.enc d') ∧ w.grownBy w' v.ownBlock := by
  have hk : ∀ x : Rn, (Rn.enc x).length = 4 := fun _ => rfl
  rcases Joins.ownsRow_forms h with ⟨rfl, h0⟩ | ⟨g, cap, rfl⟩
  · refine (sortRuns0 none 0 none w).mono ?_
    rintro e w' ⟨rfl, hg⟩
    exact ⟨rfl, d, List.Perm.refl _, fun i j _ hj => by omega, kept_none h hg, hg⟩
  · have hA := h.alloc (.cells #[.slice (some ⟨g, 0, none⟩) d.length cap] 30)
    have gl := h.lt g rfl
    obtain ⟨n, hn⟩ : ∃ n, n = d.length := ⟨_, rfl⟩
    have HC : Hid (Calls Yba.prog 32 #[.iface 30 (.slice (some ⟨g, 0, none⟩) n cap), .func (.func 44) #[] #[.pointer (some ⟨w.heap.size, 0, none⟩)]] (w.alloc (.cells #[.slice (some ⟨g, 0, none⟩) n cap] 30)) fun e w' =>
      e = .returned (.tuple #[]) ∧ ∃ d', d'.Perm d ∧ Asc1 d' ∧ w'.ownsRow B 29 4 (.slice (some ⟨g, 0, none⟩) n cap) n (fl Rn.enc d') ∧ w.grownBy w' (some g)) := by
      show Calls _ _ _ _ _
      subst hn
      by_cases h0 : d.length = 0
      · rw [h0]
        refine (tinyRun0 _ cap _ _ _ _).mono ?_
        rintro e w' ⟨rfl, os, rfl⟩
        rw [h0] at hA
        exact ⟨rfl, d, List.Perm.refl _, fun i j _ hj => by omega, kept_none hA (grow_grown _ _ _), grown_trans (alloc_grown _ _ _) (grow_grown _ _ _)⟩
      by_cases h1 : d.length = 1
      · rw [h1]
        refine (tinyRun1 _ cap _ _ _ _).mono ?_
        rintro e w' ⟨rfl, os, rfl⟩
        rw [h1] at hA
        exact ⟨rfl, d, List.Perm.refl _, fun i j _ hj => by omega, kept_none hA (grow_grown _ _ _), grown_trans (alloc_grown _ _ _) (grow_grown _ _ _)⟩
      · have hH := holds_own Rn.enc 4 hk (by omega) d.toArray (by simp) hA
        have hc := slice32Run g 0 cap w.heap.size d.toArray (by simp; omega) (by simp; omega) _ hH (by simp; omega) (by simp) (by simp) (by omega)
        rw [List.size_toArray] at hc
        refine hc.mono ?_
        rintro e w' ⟨rfl, d', m, os, p, q, rfl⟩
        have ps : d'.size = d.length := by have := p.1; simpa using this
        refine ⟨rfl, d'.toList, ?_, ?_, ?_, grown_trans (alloc_grown _ _ _) (sorted_grown _ _ _ _ _ _ _ _)⟩
        · have := perm_list (d := d.toArray) (d' := d') (by simpa using p)
          simpa using this
        · refine asc_of ?_
          rw [ps]; simpa using q
        · exact own_sorted Rn.enc 4 hk (by omega) hA d' ps m os
    rw [← hn]
    have hn2 : n ≤ 1048576 := by omega
    clear hA h hn hsz
    go_enter Yba.func30, Yba.ntmps30
    go_wp2_with fail
    refine Calls.mono HC.out ?_
    rintro e w1 ⟨rfl, h⟩
    have HP : Hid _ := h
    clear h
    go_wp2_with fail
    go_end0
    exact ⟨rfl, HP.out⟩

end Go.Proofs.Ybulkebla
