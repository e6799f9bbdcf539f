import Derived.Test.YbulkeblaAUniq
/-! The sections a peer holds, in the byte order of their words, are those of aorder's list that are there. -/
namespace Go.Proofs.Ybulkebla
open Go.Shelf Go.RowKit Go.Lib
set_option linter.unusedVariables false
set_option linter.unusedSectionVars false
variable [Inhabited Rn] [Inhabited Hs] [Inhabited Sc]

def ltRank (a b : Fin 6) : Bool := decide (rank a.val < rank b.val)
theorem swo_rank : Sort.SWO ltRank where
  irrefl x := by simp [ltRank]
  trans x y z h1 h2 := by simp only [ltRank, decide_eq_true_eq] at *; omega
  ntrans x y z h1 h2 := by simp only [ltRank, decide_eq_false_iff_not] at *; omega
theorem tot_rank (x y : Fin 6) (h1 : ltRank x y = false) (h2 : ltRank y x = false) : x = y := by
  simp only [ltRank, decide_eq_false_iff_not] at h1 h2
  exact rank_inj_aux x y (by omega)

def ordF : List (Fin 6) := [3, 5, 1, 4, 0, 2]
theorem ordF_sorted : ordF.Pairwise (fun a b => rank a.val < rank b.val) := by decide
theorem ordF_all (i : Fin 6) : i ∈ ordF := by revert i; decide

theorem sortedIn_of_pairwise {l : List (Fin 6)} (h : l.Pairwise (fun a b => rank a.val < rank b.val)) : Sort.SortedIn ltRank 0 l.length l.toArray := by
  intro i j _ hij hj
  have := List.pairwise_iff_getElem.1 h i j (by omega) hj hij
  rw [getElem!_pos _ j (by simpa using hj), getElem!_pos _ i (by simp; omega)]
  simp only [ltRank, List.getElem_toArray, decide_eq_false_iff_not]
  omega

/-- A list of distinct sections, sorted by word, is what aorder's list leaves of them. -/
theorem by_order (pres : Fin 6 → Bool) (l : List (Fin 6)) (hn : l.Nodup) (hm : ∀ i, i ∈ l ↔ pres i = true) (hs : Sort.SortedIn ltRank 0 l.length l.toArray) : l = ordF.filter pres := by
  have hp : (ordF.filter pres).Pairwise (fun a b => rank a.val < rank b.val) := ordF_sorted.filter _
  have hnd : (ordF.filter pres).Nodup := by
    rw [List.Nodup]
    exact List.Pairwise.imp (fun {a b} h e => by rw [e] at h; omega) hp
  have perm : (ordF.filter pres).Perm l := (List.perm_ext_iff_of_nodup hnd hn).2 fun i => by
    rw [List.mem_filter, hm i]
    exact ⟨fun h => h.2, fun h => ⟨ordF_all i, h⟩⟩
  refine sorted_one ltRank swo_rank tot_rank perm hs ?_
  rw [← perm.length_eq]
  exact sortedIn_of_pairwise hp

end Go.Proofs.Ybulkebla
