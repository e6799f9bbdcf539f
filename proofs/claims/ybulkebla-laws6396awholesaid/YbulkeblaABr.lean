import Derived.Test.YbulkeblaAMem
import Derived.Test.YbulkeblaASec
import Derived.Test.YbulkeblaAFl
/-! An own row of structs, told as an array: into a sort and out of it; one element more. -/
namespace Go.Proofs.Ybulkebla
open Go.Shelf Go.RowKit Go.Lib
set_option linter.unusedVariables false
set_option linter.unusedSectionVars false
variable {α : Type} [Inhabited α]

theorem flatK_fl (enc : α → List Value) (k : Nat) (hk : ∀ x, (enc x).length = k) (hk0 : 0 < k) (d : Array α) : (Sort.flatK enc k d).toList = fl enc d.toList := by
  apply List.ext_getElem?
  intro t
  by_cases ht : t < d.size * k
  · have h1 : t / k < d.size := (Nat.div_lt_iff_lt_mul hk0).2 ht
    have h2 : t % k < k := Nat.mod_lt _ hk0
    have h3 := fl_at enc k hk d.toList (t / k) (t % k) (by simpa using h1) h2
    rw [show t / k * k + t % k = t by rw [Nat.mul_comm]; exact Nat.div_add_mod t k] at h3
    rw [h3]
    have h4 := Sort.get_flatK enc k d t ht
    rw [getElem!_pos _ t (by simpa using ht)] at h4
    rw [Array.getElem?_toList, Array.getElem?_eq_getElem (by simpa using ht), h4]
    have h5 : d[t / k]! = d.toList.getD (t / k) default := by
      rw [getElem!_pos d _ h1, List.getD_eq_getElem?_getD, Array.getElem?_toList, Array.getElem?_eq_getElem h1]; rfl
    rw [h5, getElem!_pos _ _ (by rw [hk]; exact h2), List.getElem?_eq_getElem (by rw [hk]; exact h2)]
  · rw [List.getElem?_eq_none (by simp; omega), List.getElem?_eq_none (by rw [fl_len enc k hk]; simp; omega)]

/-- An own row holds the array. -/
theorem holds_own (enc : α → List Value) (k : Nat) (hk : ∀ x, (enc x).length = k) (hk0 : 0 < k) {w : World} {B : Nat} {e : TypeId} {g n cap : Nat} (d : Array α) (hd : d.size = n)
    (h : w.ownsRow B e k (.slice (some ⟨g, 0, none⟩) n cap) n (fl enc d.toList)) : Sort.HoldsK enc k w g 0 d := by
  intro j hj
  have hj2 : j < n * k := by rw [Sort.size_flatK] at hj; rw [← hd]; exact hj
  refine ⟨?_, by rw [Nat.zero_add]; exact h.frozenAt j⟩
  rw [Nat.zero_add, h.cellAt j hj2, ← flatK_fl enc k hk hk0, Array.getElem?_toList, Array.getElem?_eq_getElem hj, getElem!_pos _ j hj]
  rfl

/-- Behind a sort the row is own still, and holds what the sort laid. -/
theorem own_sorted (enc : α → List Value) (k : Nat) (hk : ∀ x, (enc x).length = k) (hk0 : 0 < k) {w : World} {B : Nat} {e : TypeId} {g n cap : Nat} {xs : List Value}
    (h : w.ownsRow B e k (.slice (some ⟨g, 0, none⟩) n cap) n xs) (d' : Array α) (hd : d'.size = n) (m : Nat) (os : Array Obj) :
    (Sort.grow (Sort.putRowK enc k (Sort.ahead w m) g 0 d') os).ownsRow B e k (.slice (some ⟨g, 0, none⟩) n cap) n (fl enc d'.toList) := by
  rcases h.2 with ⟨h', _⟩ | ⟨g', cap', cur, h', hb, hg, hnc, hcm, hcs, htake⟩
  · simp at h'
  · simp only [Value.slice.injEq, Option.some.injEq, Addr.mk.injEq, and_true, true_and] at h'
    obtain ⟨rfl, rfl⟩ := h'
    have hgs : g < w.heap.size := (Array.getElem?_eq_some_iff.1 hg).1
    have hF : (Sort.flatK enc k d').size = n * k := by rw [Sort.size_flatK, hd]
    refine ⟨by rw [fl_len enc k hk]; simp [hd], .inr ⟨g, cap, Sort.putCells id 0 (Sort.flatK enc k d') cur, rfl, hb, ?_, hnc, hcm, by simp [Sort.putCells, hcs], ?_⟩⟩
    · rw [Sort.heap_grow_old _ _ (by simp [Sort.putRowK]; exact hgs)]
      show (w.heap.modify g (Sort.onCells (Sort.putCells id 0 (Sort.flatK enc k d'))))[g]? = _
      rw [Array.getElem?_modify, if_pos rfl, hg]; rfl
    · rw [← flatK_fl enc k hk hk0]
      have hle : n * k ≤ cur.size := by rw [hcs]; exact Nat.mul_le_mul_right _ hnc
      apply List.ext_getElem?
      intro t
      by_cases ht : t < n * k
      · rw [List.getElem?_take_of_lt ht, Array.getElem?_toList, Array.getElem?_toList]
        simp only [Sort.putCells, Array.getElem?_mapIdx]
        rw [Array.getElem?_eq_getElem (by omega), Array.getElem?_eq_getElem (by omega)]
        simp only [Option.map_some]
        rw [if_pos ⟨Nat.zero_le _, by omega⟩, Nat.sub_zero, getElem!_pos _ t (by omega)]
        rfl
      · rw [List.getElem?_eq_none (by rw [List.length_take]; omega), List.getElem?_eq_none (by rw [Array.length_toList, hF]; omega)]

end Go.Proofs.Ybulkebla
