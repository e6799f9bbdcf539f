import Derived.Test.YbulkeblaKit
/-! The two partitions' plain side. -/
namespace Go.Proofs.Ybulkebla
open Go.RowKit
set_option linter.unusedVariables false

/-- Between i and j nothing is known; left of i all are 'L' against the pivot at a; right of j none. -/
structure PI (L : Int → Int → Bool) (a b : Nat) (d1 dk : Array Int) (i j : Nat) : Prop where
  perm : Sort.PermIn (a + 1) b d1 dk
  sz : b ≤ d1.size
  ai : a + 1 ≤ i
  ij : i ≤ j + 1
  jb : j < b
  lo : ∀ t, a < t → t < i → L dk[t]! dk[a]! = true
  hi : ∀ t, j < t → t < b → L dk[t]! dk[a]! = false

theorem PI.start {L : Int → Int → Bool} {a b : Nat} {d1 : Array Int} (h : a < b) (hb : b ≤ d1.size) : PI L a b d1 d1 (a + 1) (b - 1) :=
  ⟨Sort.permIn_refl _ _ _, hb, by omega, by omega, by omega, fun t h1 h2 => by omega, fun t h1 h2 => by omega⟩
theorem PI.up {L : Int → Int → Bool} {a b : Nat} {d1 dk : Array Int} {i j : Nat} (h : PI L a b d1 dk i j) (hij : i ≤ j) (hl : L dk[i]! dk[a]! = true) : PI L a b d1 dk (i + 1) j :=
  ⟨h.perm, h.sz, by have := h.ai; omega, by omega, h.jb, fun t h1 h2 => (Nat.lt_or_ge t i).elim (h.lo t h1) (fun h3 => (show t = i by omega) ▸ hl), h.hi⟩
theorem PI.down {L : Int → Int → Bool} {a b : Nat} {d1 dk : Array Int} {i j : Nat} (h : PI L a b d1 dk i j) (hij : i ≤ j) (hl : L dk[j]! dk[a]! = false) : PI L a b d1 dk i (j - 1) :=
  ⟨h.perm, h.sz, h.ai, by omega, by have := h.jb; omega, h.lo, fun t h1 h2 => (Nat.lt_or_ge j t).elim (fun h3 => h.hi t h3 h2) (fun h3 => (show t = j by omega) ▸ hl)⟩
theorem PI.size {L : Int → Int → Bool} {a b : Nat} {d1 dk : Array Int} {i j : Nat} (h : PI L a b d1 dk i j) : dk.size = d1.size := h.perm.1
theorem PI.swap {L : Int → Int → Bool} {a b : Nat} {d1 dk : Array Int} {i j : Nat} (h : PI L a b d1 dk i j) (hij : i ≤ j) (hi : L dk[i]! dk[a]! = false) (hj : L dk[j]! dk[a]! = true) :
    i < j ∧ PI L a b d1 (Sort.swp dk i j) (i + 1) (j - 1) := by
  have hne : i ≠ j := by rintro rfl; rw [hi] at hj; cases hj
  have h1 := h.ai; have h2 := h.jb; have h3 := h.sz; have h4 := h.size
  refine ⟨by omega, ⟨Sort.permIn_trans _ _ _ _ _ h.perm (Sort.swp_permIn dk (a + 1) b i j (by omega) (by omega) (by omega) (by omega) (by omega)), h.sz, by omega, by omega, by omega, ?_, ?_⟩⟩
  · intro t ha ht
    rw [Sort.swp_other dk i j a (by omega) (by omega)]
    by_cases e : t = i
    · rw [e, Sort.swp_left dk i j (by omega) hne]; exact hj
    · rw [Sort.swp_other dk i j t e (by omega)]; exact h.lo t ha (by omega)
  · intro t ha ht
    rw [Sort.swp_other dk i j a (by omega) (by omega)]
    by_cases e : t = j
    · rw [e, Sort.swp_right dk i j (by omega)]; exact hi
    · rw [Sort.swp_other dk i j t (by omega) e]; exact h.hi t (by omega) ht

/-- What partition leaves. -/
structure PartOut (a b : Nat) (d d' : Array Int) (mid : Nat) : Prop where
  am : a ≤ mid
  mb : mid < b
  perm : Sort.PermIn a b d d'
  lo : ∀ t, a ≤ t → t < mid → Sort.ltInt d'[t]! d'[mid]! = true
  hi : ∀ t, mid < t → t < b → Sort.ltInt d'[t]! d'[mid]! = false

theorem PI.fin {a b p : Nat} {d dk : Array Int} {i j : Nat} (h : PI Sort.ltInt a b (Sort.swp d a p) dk i j) (hap : a ≤ p) (hpb : p < b) (hij : ¬ i ≤ j) : PartOut a b d (Sort.swp dk j a) j := by
  have h1 := h.ai; have h2 := h.jb; have h3 := h.sz; have h4 := h.size; have h5 := h.ij
  have h6 := Sort.size_swp d a p
  have hi : i = j + 1 := by omega
  refine ⟨by omega, h2, ?_, ?_, ?_⟩
  · refine Sort.permIn_trans _ _ _ _ _ (Sort.swp_permIn d a b a p (by omega) (by omega) hap hpb (by omega)) ?_
    refine Sort.permIn_trans _ _ _ _ _ (Sort.permIn_mono _ _ _ _ a b (by omega) (by omega) (by omega) h.perm) ?_
    exact Sort.swp_permIn dk a b j a (by omega) (by omega) (by omega) (by omega) (by omega)
  · intro t ha ht
    rw [Sort.swp_left dk j a (by omega) (by omega)]
    by_cases e : t = a
    · rw [e, Sort.swp_right dk j a (by omega)]; exact h.lo j (by omega) (by omega)
    · rw [Sort.swp_other dk j a t (by omega) e]; exact h.lo t (by omega) (by omega)
  · intro t ha ht
    have e1 : (Sort.swp dk j a)[j]! = dk[a]! := by
      by_cases e : j = a
      · rw [e, Sort.swp_right dk a a (by omega)]
      · exact Sort.swp_left dk j a (by omega) e
    rw [e1, Sort.swp_other dk j a t (by omega) (by omega)]
    exact h.hi t ha ht

/-- What partitionEqual leaves: up to mid none is greater than the pivot; from mid on all are. -/
structure EqOut (a b p : Nat) (d d' : Array Int) (mid : Nat) : Prop where
  am : a < mid
  mb : mid ≤ b
  perm : Sort.PermIn a b d d'
  lo : ∀ t, a ≤ t → t < mid → Sort.ltInt d[p]! d'[t]! = false
  hi : ∀ t, mid ≤ t → t < b → Sort.ltInt d[p]! d'[t]! = true

def notLess (x y : Int) : Bool := !Sort.ltInt y x

theorem PI.finE {a b p : Nat} {d dk : Array Int} {i j : Nat} (h : PI notLess a b (Sort.swp d a p) dk i j) (hap : a ≤ p) (hpb : p < b) (hij : ¬ i ≤ j) : EqOut a b p d dk i := by
  have h1 := h.ai; have h2 := h.jb; have h3 := h.sz; have h4 := h.size; have h5 := h.ij
  have h6 := Sort.size_swp d a p
  have e1 : dk[a]! = d[p]! := by
    rw [h.perm.2.1 a (Or.inl (by omega))]
    by_cases e : a = p
    · rw [← e, Sort.swp_right d a a (by omega)]
    · exact Sort.swp_left d a p (by omega) e
  refine ⟨by omega, by omega, ?_, ?_, ?_⟩
  · refine Sort.permIn_trans _ _ _ _ _ (Sort.swp_permIn d a b a p (by omega) (by omega) hap hpb (by omega)) ?_
    exact Sort.permIn_mono _ _ _ _ a b (by omega) (by omega) (by omega) h.perm
  · intro t ha ht
    by_cases e : t = a
    · rw [e, e1]; simp [Sort.ltInt]
    · have := h.lo t (by omega) ht
      rw [e1] at this; simpa [notLess] using this
  · intro t ha ht
    have := h.hi t (by omega) ht
    rw [e1] at this; simpa [notLess] using this

end Go.Proofs.Ybulkebla
