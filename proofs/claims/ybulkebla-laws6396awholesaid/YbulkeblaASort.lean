import Derived.Test.YbulkeblaALay
/-! slices.SortFunc (9, 17), sortRuns (30) and its closure (44), index's closures. -/
namespace Go.Proofs.Ybulkebla
open Go.Shelf Go.RowKit Go.Lib
set_option linter.unusedVariables false
set_option linter.unusedSectionVars false
variable [Inhabited Rn] [Inhabited Hs]

theorem lt_run (x y : Rn) : ltOf cmpRun x y = decide (x.first < y.first ∨ (x.first = y.first ∧ (x.count < y.count ∨ (x.count = y.count ∧ x.id < y.id)))) := by
  unfold ltOf cmpRun cmp3
  refine decide_eq_decide.2 ?_
  by_cases h1 : x.first = y.first
  · simp only [if_pos h1]
    by_cases h2 : x.count = y.count
    · simp only [if_pos h2]
      by_cases h3 : x.id = y.id
      · simp only [if_pos h3]; omega
      · simp only [if_neg h3]; by_cases h4 : x.id < y.id
        · simp only [if_pos h4]; omega
        · simp only [if_neg h4]; omega
    · simp only [if_neg h2]; by_cases h4 : x.count < y.count
      · simp only [if_pos h4]; omega
      · simp only [if_neg h4]; omega
  · simp only [if_neg h1]; by_cases h4 : x.first < y.first
    · simp only [if_pos h4]; omega
    · simp only [if_neg h4]; omega
theorem lt_span (x y : Hs) : ltOf cmpSpan x y = decide (x.first < y.first ∨ (x.first = y.first ∧ (x.peer < y.peer ∨ (x.peer = y.peer ∧ x.last < y.last)))) := by
  unfold ltOf cmpSpan cmp3
  refine decide_eq_decide.2 ?_
  by_cases h1 : x.first = y.first
  · simp only [if_pos h1]
    by_cases h2 : x.peer = y.peer
    · simp only [if_pos h2]
      by_cases h3 : x.last = y.last
      · simp only [if_pos h3]; omega
      · simp only [if_neg h3]; by_cases h4 : x.last < y.last
        · simp only [if_pos h4]; omega
        · simp only [if_neg h4]; omega
    · simp only [if_neg h2]; by_cases h4 : x.peer < y.peer
      · simp only [if_pos h4]; omega
      · simp only [if_neg h4]; omega
  · simp only [if_neg h1]; by_cases h4 : x.first < y.first
    · simp only [if_pos h4]; omega
    · simp only [if_neg h4]; omega

theorem swo_run : Sort.SWO (ltOf cmpRun) where
  irrefl x := by rw [lt_run]; simp
  trans x y z h1 h2 := by rw [lt_run] at *; simp only [decide_eq_true_eq] at *; omega
  ntrans x y z h1 h2 := by rw [lt_run] at *; simp only [decide_eq_false_iff_not] at *; omega
theorem swo_span : Sort.SWO (ltOf cmpSpan) where
  irrefl x := by rw [lt_span]; simp
  trans x y z h1 h2 := by rw [lt_span] at *; simp only [decide_eq_true_eq] at *; omega
  ntrans x y z h1 h2 := by rw [lt_span] at *; simp only [decide_eq_false_iff_not] at *; omega
theorem tot_run (x y : Rn) (h1 : ltOf cmpRun x y = false) (h2 : ltOf cmpRun y x = false) : x = y := by
  rw [lt_run] at h1 h2; simp only [decide_eq_false_iff_not] at h1 h2
  cases x; cases y; simp only [Rn.mk.injEq] at *; omega
theorem tot_span (x y : Hs) (h1 : ltOf cmpSpan x y = false) (h2 : ltOf cmpSpan y x = false) : x = y := by
  rw [lt_span] at h1 h2; simp only [decide_eq_false_iff_not] at h1 h2
  cases x; cases y; simp only [Hs.mk.injEq] at *; omega

theorem agg29 (w : World) : (isAgg 29).run Yba.prog w = .ok true w := by kernel_rfl
theorem size29 (w : World) : (Go.sizeOf 29).run Yba.prog w = .ok 4 w := by kernel_rfl
theorem agg35 (w : World) : (isAgg 35).run Yba.prog w = .ok true w := by kernel_rfl
theorem size35 (w : World) : (Go.sizeOf 35).run Yba.prog w = .ok 3 w := by kernel_rfl

theorem sortFuncRun (blk off cap : Nat) (d : Array Rn) (w : World) (hH : Sort.HoldsK Rn.enc 4 w blk off d) (hblk : blk < w.heap.size) (hsz : d.size ≤ 4096) :
    Calls Yba.prog 9 #[.slice (some ⟨blk, off, none⟩) d.size cap, .func (.func 10) #[] #[]] w fun e w' =>
      e = .returned (.tuple #[]) ∧ ∃ d' n os, Sort.PermIn 0 d.size d d' ∧ Sort.SortedIn (ltOf cmpRun) 0 d.size d' ∧ w' = sortWorldK Rn.enc 4 w blk off n d' os :=
  AnyQ.slices_SortFunc Yba.sortRun9 4 agg29 size29 Rn.enc (fun _ => rfl) (fun x v hv => by simp [Rn.enc] at hv; rcases hv with rfl | rfl | rfl | rfl <;> rfl) cmpRun swo_run 10 #[] blk off cap d w
    (enters_of Yba.func10 (by kernel_rfl) rfl) (fun _ _ _ _ x y => acmprun x y _) hH hblk (by omega)

theorem sortFuncSpan (blk off cap : Nat) (d : Array Hs) (w : World) (hH : Sort.HoldsK Hs.enc 3 w blk off d) (hblk : blk < w.heap.size) (hsz : d.size < 4611686018427387904) :
    Calls Yba.prog 17 #[.slice (some ⟨blk, off, none⟩) d.size cap, .func (.func 18) #[] #[]] w fun e w' =>
      e = .returned (.tuple #[]) ∧ ∃ d' n os, Sort.PermIn 0 d.size d d' ∧ Sort.SortedIn (ltOf cmpSpan) 0 d.size d' ∧ w' = sortWorldK Hs.enc 3 w blk off n d' os :=
  AnyQ.slices_SortFunc Yba.sortSpan17 3 agg35 size35 Hs.enc (fun _ => rfl) (fun x v hv => by simp [Hs.enc] at hv; rcases hv with rfl | rfl | rfl <;> rfl) cmpSpan swo_span 18 #[] blk off cap d w
    (enters_of Yba.func18 (by kernel_rfl) rfl) (fun _ _ _ _ x y => acmpspan x y _) hH hblk hsz

end Go.Proofs.Ybulkebla
