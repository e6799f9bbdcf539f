import Derived.Test.YbulkeblaAClo
import Derived.Test.YbulkeblaBitsLen
/-! slices.SortFunc (9, 17) at an own row. -/
namespace Go.Proofs.Ybulkebla
open Go.Shelf Go.RowKit Go.Lib
set_option linter.unusedVariables false
set_option linter.unusedSectionVars false
variable [Inhabited Rn] [Inhabited Hs] [Inhabited Sc]

theorem len0 (w : World) : Calls Yba.prog 36 #[.int .u64 0] w fun e w' => e = .returned (.int .i64 0) ∧ w' = w := by
  have h := Yba.bits_Len 0 w (by omega) (by omega)
  exact h

set_option maxHeartbeats 1000000 in
theorem insNone9 (c : Nat) (f : Value) (w : World) :
    Calls Yba.prog 49 #[.slice none 0 c, .int .i64 0, .int .i64 0, f] w fun e w' => e = .returned (.tuple #[]) ∧ w' = w := by
  go_enter Yba.func49, Yba.ntmps49
  go_wp2_with fail
  refine wp_loop_rounds 1 ?_
  rw [rounds_succ]
  go_wp2_with fail
  go_end0
  exact ⟨rfl, rfl⟩

set_option maxHeartbeats 1000000 in
set_option maxRecDepth 100000 in
theorem pdqNone9 (c : Nat) (f : Value) (w : World) :
    Calls Yba.prog 35 #[.slice none 0 c, .int .i64 0, .int .i64 0, .int .i64 0, f] w fun e w' => e = .returned (.tuple #[]) ∧ w' = w := by
  go_enter Yba.func35, Yba.ntmps35
  go_wp2_with fail
  refine wp_loop_rounds 1 ?_
  rw [rounds_succ]
  go_wp2_with fail
  refine (insNone9 c f w).mono ?_
  rintro e w1 ⟨rfl, rfl⟩
  go_wp2_with fail
  (try simp only [Exit.inBlock, Exit.then]); refine bodyPost_ret (results_none rfl _ _ _) rfl ?_
  exact ⟨rfl, rfl⟩

set_option maxHeartbeats 1000000 in
set_option maxRecDepth 100000 in
theorem sfNone9 (c : Nat) (f : Value) (w : World) : Calls Yba.prog 9 #[.slice none 0 c, f] w fun e w' => e = .returned (.tuple #[]) ∧ w' = w := by
  go_enter Yba.func9, Yba.ntmps9
  go_wp2_with fail
  refine (len0 w).mono ?_
  rintro e w1 ⟨rfl, rfl⟩
  go_wp2_with fail
  refine (pdqNone9 c f _).mono ?_
  rintro e w2 ⟨rfl, rfl⟩
  go_wp2_with fail
  go_end0
  exact ⟨rfl, rfl⟩

theorem sortFunc9Own (B : Nat) (v : Value) (d : List Rn) (w : World) (hsz : d.length ≤ 4096) (h : w.ownsRow B 29 4 v d.length (fl Rn.enc d)) :
    Calls Yba.prog 9 #[v, .func (.func 10) #[] #[]] w fun e w' => e = .returned (.tuple #[]) ∧ ∃ d', d'.Perm d ∧ Sort.SortedIn (ltOf cmpRun) 0 d.length d'.toArray ∧ w'.ownsRow B 29 4 v d.length (fl Rn.enc d') ∧ w.grownBy w' v.ownBlock := by
  have hk : ∀ x : Rn, (Rn.enc x).length = 4 := fun _ => rfl
  rcases Joins.ownsRow_forms h with ⟨rfl, h0⟩ | ⟨g, cap, rfl⟩
  · rw [h0] at h ⊢
    refine (sfNone9 0 _ w).mono ?_
    rintro e w' ⟨rfl, rfl⟩
    exact ⟨rfl, d, List.Perm.refl _, fun i j _ _ hj => by omega, h, ⟨rfl, rfl, rfl, Nat.le_refl _, fun _ _ _ => rfl⟩⟩
  · have gl := h.lt g rfl
    have hH := holds_own Rn.enc 4 hk (by omega) d.toArray (by simp) h
    have hc := sortFuncRun g 0 cap d.toArray w hH gl.2 (by simp; omega)
    rw [List.size_toArray] at hc
    refine hc.mono ?_
    rintro e w' ⟨rfl, d', m, os, p, q, rfl⟩
    have ps : d'.size = d.length := by have := p.1; simpa using this
    refine ⟨rfl, d'.toList, ?_, ?_, ?_, sorted_grown _ _ _ _ _ _ _ _⟩
    · have := perm_list (d := d.toArray) (d' := d') (by simpa using p)
      simpa using this
    · simpa using q
    · exact own_sorted Rn.enc 4 hk (by omega) h d' ps m os

set_option maxHeartbeats 1000000 in
theorem insNone17 (c : Nat) (f : Value) (w : World) :
    Calls Yba.prog 60 #[.slice none 0 c, .int .i64 0, .int .i64 0, f] w fun e w' => e = .returned (.tuple #[]) ∧ w' = w := by
  go_enter Yba.func60, Yba.ntmps60
  go_wp2_with fail
  refine wp_loop_rounds 1 ?_
  rw [rounds_succ]
  go_wp2_with fail
  go_end0
  exact ⟨rfl, rfl⟩

set_option maxHeartbeats 1000000 in
set_option maxRecDepth 100000 in
theorem pdqNone17 (c : Nat) (f : Value) (w : World) :
    Calls Yba.prog 38 #[.slice none 0 c, .int .i64 0, .int .i64 0, .int .i64 0, f] w fun e w' => e = .returned (.tuple #[]) ∧ w' = w := by
  go_enter Yba.func38, Yba.ntmps38
  go_wp2_with fail
  refine wp_loop_rounds 1 ?_
  rw [rounds_succ]
  go_wp2_with fail
  refine (insNone17 c f w).mono ?_
  rintro e w1 ⟨rfl, rfl⟩
  go_wp2_with fail
  (try simp only [Exit.inBlock, Exit.then]); refine bodyPost_ret (results_none rfl _ _ _) rfl ?_
  exact ⟨rfl, rfl⟩

set_option maxHeartbeats 1000000 in
set_option maxRecDepth 100000 in
theorem sfNone17 (c : Nat) (f : Value) (w : World) : Calls Yba.prog 17 #[.slice none 0 c, f] w fun e w' => e = .returned (.tuple #[]) ∧ w' = w := by
  go_enter Yba.func17, Yba.ntmps17
  go_wp2_with fail
  refine (len0 w).mono ?_
  rintro e w1 ⟨rfl, rfl⟩
  go_wp2_with fail
  refine (pdqNone17 c f _).mono ?_
  rintro e w2 ⟨rfl, rfl⟩
  go_wp2_with fail
  go_end0
  exact ⟨rfl, rfl⟩

theorem sortFunc17Own (B : Nat) (v : Value) (d : List Hs) (w : World) (hsz : d.length ≤ 4096) (h : w.ownsRow B 35 3 v d.length (fl Hs.enc d)) :
    Calls Yba.prog 17 #[v, .func (.func 18) #[] #[]] w fun e w' => e = .returned (.tuple #[]) ∧ ∃ d', d'.Perm d ∧ Sort.SortedIn (ltOf cmpSpan) 0 d.length d'.toArray ∧ w'.ownsRow B 35 3 v d.length (fl Hs.enc d') ∧ w.grownBy w' v.ownBlock := by
  have hk : ∀ x : Hs, (Hs.enc x).length = 3 := fun _ => rfl
  rcases Joins.ownsRow_forms h with ⟨rfl, h0⟩ | ⟨g, cap, rfl⟩
  · rw [h0] at h ⊢
    refine (sfNone17 0 _ w).mono ?_
    rintro e w' ⟨rfl, rfl⟩
    exact ⟨rfl, d, List.Perm.refl _, fun i j _ _ hj => by omega, h, ⟨rfl, rfl, rfl, Nat.le_refl _, fun _ _ _ => rfl⟩⟩
  · have gl := h.lt g rfl
    have hH := holds_own Hs.enc 3 hk (by omega) d.toArray (by simp) h
    have hc := sortFuncSpan g 0 cap d.toArray w hH gl.2 (by simp; omega)
    rw [List.size_toArray] at hc
    refine hc.mono ?_
    rintro e w' ⟨rfl, d', m, os, p, q, rfl⟩
    have ps : d'.size = d.length := by have := p.1; simpa using this
    refine ⟨rfl, d'.toList, ?_, ?_, ?_, sorted_grown _ _ _ _ _ _ _ _⟩
    · have := perm_list (d := d.toArray) (d' := d') (by simpa using p)
      simpa using this
    · simpa using q
    · exact own_sorted Hs.enc 3 hk (by omega) h d' ps m os

end Go.Proofs.Ybulkebla
