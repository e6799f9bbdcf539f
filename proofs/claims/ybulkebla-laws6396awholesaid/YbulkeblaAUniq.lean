import Derived.Test.YbulkeblaAOrd
/-! Two sorted lists of one multiset are one, where the order is total. -/
namespace Go.Proofs.Ybulkebla
open Go.Shelf Go.RowKit Go.Lib
set_option linter.unusedVariables false
set_option linter.unusedSectionVars false
variable [Inhabited Rn] [Inhabited Hs] [Inhabited Sc]

theorem perm_in {α : Type} [Inhabited α] {a b : List α} (p : b.Perm a) : Sort.PermIn 0 a.toArray.size a.toArray b.toArray := by
  have hl := p.length_eq
  refine ⟨by simp [hl], fun i hi => ?_, ?_⟩
  · rcases hi with hi | hi
    · omega
    · rw [getElem!_neg _ i (by simp at hi ⊢; omega), getElem!_neg _ i (by simp at hi ⊢; omega)]
  · have e1 : a.toArray.extract 0 a.toArray.size = a.toArray := by simp
    have e2 : b.toArray.extract 0 a.toArray.size = b.toArray := by rw [List.size_toArray, ← hl]; simp
    rw [e1, e2]; exact p

theorem sorted_one {α : Type} [Inhabited α] (lt : α → α → Bool) (hO : Sort.SWO lt) (hT : ∀ x y, lt x y = false → lt y x = false → x = y) {a b : List α} (p : b.Perm a)
    (sa : Sort.SortedIn lt 0 a.length a.toArray) (sb : Sort.SortedIn lt 0 a.length b.toArray) : a = b := by
  have h1 := Sort.sorted_unique_holds (lt := lt) hO hT a.toArray a.toArray (perm_in (List.Perm.refl a)) (by simpa using sa)
  have h2 := Sort.sorted_unique_holds (lt := lt) hO hT a.toArray b.toArray (perm_in p) (by simpa using sb)
  have : a.toArray.toList = b.toArray.toList := h1.trans h2.symm
  simpa using this

/-- What the law compares by SortFunc on both sides. -/
theorem runs_one {d a b : List Rn} (pa : a.Perm d) (pb : b.Perm d) (sa : Sort.SortedIn (ltOf cmpRun) 0 d.length a.toArray) (sb : Sort.SortedIn (ltOf cmpRun) 0 d.length b.toArray) : a = b := by
  have hl := pa.length_eq
  exact sorted_one (ltOf cmpRun) swo_run tot_run (pb.trans pa.symm) (by rw [hl]; exact sa) (by rw [hl]; exact sb)
theorem spans_one {d a b : List Hs} (pa : a.Perm d) (pb : b.Perm d) (sa : Sort.SortedIn (ltOf cmpSpan) 0 d.length a.toArray) (sb : Sort.SortedIn (ltOf cmpSpan) 0 d.length b.toArray) : a = b := by
  have hl := pa.length_eq
  exact sorted_one (ltOf cmpSpan) swo_span tot_span (pb.trans pa.symm) (by rw [hl]; exact sa) (by rw [hl]; exact sb)

/-- Behind merge and behind union: the same spans, whatever the order of the runs. -/
theorem spans_same {d d' : List Rn} (p : d'.Perm d) {acc acc' : List Sp} {lo hi : Int} (h : MergeInv (d'.map fun r => (r.first, r.first + r.count - 1)) acc)
    (k : ScanInv (fun x => ∃ r ∈ d, r.first ≤ x ∧ x ≤ r.first + r.count - 1) lo (hi + 1) acc') (hb : ∀ r ∈ d, lo ≤ r.first ∧ r.first + r.count - 1 ≤ hi) : acc = acc' := by
  refine merge_scan h k (fun x => ?_) (fun r hr => ?_)
  · constructor
    · rintro ⟨r, hr, h1⟩
      exact ⟨(r.first, r.first + r.count - 1), List.mem_map.2 ⟨r, p.symm.mem_iff.1 hr, rfl⟩, h1⟩
    · rintro ⟨q, hq, h1⟩
      obtain ⟨r, hr, rfl⟩ := List.mem_map.1 hq
      exact ⟨r, p.mem_iff.1 hr, h1⟩
  · obtain ⟨r2, hr2, rfl⟩ := List.mem_map.1 hr
    exact hb r2 (p.mem_iff.1 hr2)

end Go.Proofs.Ybulkebla
