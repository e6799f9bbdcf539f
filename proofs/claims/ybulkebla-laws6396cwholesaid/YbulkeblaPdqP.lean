import Derived.Test.YbulkeblaPartP
/-! pdqsort's plain side: what a round of the loop knows. -/
namespace Go.Proofs.Ybulkebla
open Go.RowKit
set_option linter.unusedVariables false

theorem nl {x y : Int} : Sort.ltInt x y = false ↔ y ≤ x := by simp [Sort.ltInt]
theorem tl {x y : Int} : Sort.ltInt x y = true ↔ x < y := by simp [Sort.ltInt]

def Srt (x y : Nat) (d : Array Int) : Prop := ∀ i j, x ≤ i → i < j → j < y → d[i]! ≤ d[j]!
theorem srt_iff {x y : Nat} {d : Array Int} : Sort.SortedIn Sort.ltInt x y d ↔ Srt x y d :=
  ⟨fun h i j a b c => nl.1 (h i j a b c), fun h i j a b c => nl.2 (h i j a b c)⟩
def Low (x y : Nat) (d : Array Int) : Prop := x = 0 ∨ ∀ t, x ≤ t → t < y → d[x - 1]! ≤ d[t]!
theorem low_iff {x y : Nat} {d : Array Int} : Sort.Below Sort.ltInt x y d ↔ Low x y d :=
  ⟨fun h => h.imp id fun h t a b => nl.1 (h t a b), fun h => h.imp id fun h t a b => nl.2 (h t a b)⟩

structure Rel (a b : Nat) (d : Array Int) (x y : Nat) (dk : Array Int) : Prop where
  ax : a ≤ x
  xy : x ≤ y
  yb : y ≤ b
  sz : b ≤ d.size
  perm : Sort.PermIn a b d dk
  low : Low x y dk
  cont : ∀ d', Sort.PermIn x y dk d' → Srt x y d' → Srt a b d'

theorem Rel.start {a b : Nat} {d : Array Int} (hab : a ≤ b) (hb : b ≤ d.size) (hl : Low a b d) : Rel a b d a b d :=
  ⟨Nat.le_refl _, hab, Nat.le_refl _, hb, Sort.permIn_refl _ _ _, hl, fun _ _ h => h⟩

theorem Rel.size {a b : Nat} {d : Array Int} {x y : Nat} {dk : Array Int} (h : Rel a b d x y dk) : dk.size = d.size := h.perm.1

theorem low_perm {x y : Nat} {d d1 : Array Int} (h : Low x y d) (hy : y ≤ d.size) (hp : Sort.PermIn x y d d1) : Low x y d1 := by
  rcases h with h | h
  · exact .inl h
  · rcases Nat.eq_zero_or_pos x with h0 | h0
    · exact .inl h0
    · refine .inr ?_
      rw [hp.2.1 (x - 1) (Or.inl (by omega))]
      exact Sort.permIn_all d d1 x y (fun v => d[x - 1]! ≤ v) hy hp h

theorem Rel.more {a b : Nat} {d : Array Int} {x y : Nat} {dk d1 : Array Int} (h : Rel a b d x y dk) (hp : Sort.PermIn x y dk d1) : Rel a b d x y d1 := by
  have h1 := h.ax; have h2 := h.xy; have h3 := h.yb; have h4 := h.sz; have h5 := h.size
  exact ⟨h1, h2, h3, h4, Sort.permIn_trans _ _ _ _ _ h.perm (Sort.permIn_mono _ _ _ _ a b h1 h3 (by omega) hp), low_perm h.low (by omega) hp,
    fun d' hq hs => h.cont d' (Sort.permIn_trans _ _ _ _ _ hp hq) hs⟩

theorem Rel.fin {a b : Nat} {d : Array Int} {x y : Nat} {dk d1 : Array Int} (h : Rel a b d x y dk) (hp : Sort.PermIn x y dk d1) (hs : Sort.SortedIn Sort.ltInt x y d1) : Sort.PermIn a b d d1 ∧ Srt a b d1 :=
  ⟨(h.more hp).perm, h.cont d1 hp (srt_iff.1 hs)⟩

theorem Rel.eq {a b : Nat} {d : Array Int} {x y p mid : Nat} {dk d4 : Array Int} (h : Rel a b d x y dk) (hx : 0 < x) (hl : Sort.ltInt dk[x - 1]! dk[p]! = false) (ho : EqOut x y p dk d4 mid) : Rel a b d mid y d4 := by
  have h1 := h.ax; have h2 := h.xy; have h3 := h.yb; have h4 := h.sz; have h5 := h.size
  have o1 := ho.am; have o2 := ho.mb
  have hm := h.more ho.perm
  have hlow : ∀ t, x ≤ t → t < y → dk[p]! ≤ d4[t]! := by
    intro t ht1 ht2
    rcases hm.low with e | e
    · omega
    · have e1 := e t ht1 ht2
      rw [ho.perm.2.1 (x - 1) (Or.inl (by omega))] at e1
      have := nl.1 hl
      omega
  refine ⟨by omega, o2, h3, h4, hm.perm, .inr ?_, ?_⟩
  · intro t ht1 ht2
    have e1 := nl.1 (ho.lo (mid - 1) (by omega) (by omega))
    have e2 := hlow t (by omega) ht2
    omega
  · intro d' hp hs
    refine hm.cont d' (Sort.permIn_mono _ _ _ _ x y (by omega) (Nat.le_refl _) (by rw [ho.perm.1]; omega) hp) ?_
    have hsz : y ≤ d4.size := by rw [ho.perm.1]; omega
    have hall := Sort.permIn_all d4 d' mid y (fun v => dk[p]! < v) hsz hp (fun t a b => tl.1 (ho.hi t a b))
    intro i j hi hij hj
    by_cases c1 : i < mid
    · rw [hp.2.1 i (Or.inl c1)]
      have e1 := nl.1 (ho.lo i hi c1)
      by_cases c2 : j < mid
      · rw [hp.2.1 j (Or.inl c2)]
        have := hlow j (by omega) hj
        omega
      · have := hall j (by omega) hj
        omega
    · exact hs i j (by omega) hij hj

theorem PartOut.lowL {x y mid : Nat} {dk d4 : Array Int} (ho : PartOut x y dk d4 mid) (hy : y ≤ dk.size) (hl : Low x y dk) : Low x mid d4 :=
  (low_perm hl hy ho.perm).imp id fun h t a b => h t a (by have := ho.mb; omega)
theorem PartOut.lowR {x y mid : Nat} {dk d4 : Array Int} (ho : PartOut x y dk d4 mid) : Low (mid + 1) y d4 :=
  .inr fun t a b => by rw [Nat.add_sub_cancel]; exact nl.1 (ho.hi t (by omega) b)

theorem Rel.left {a b : Nat} {d : Array Int} {x y mid : Nat} {dk d4 d5 : Array Int} (h : Rel a b d x y dk) (ho : PartOut x y dk d4 mid) (hp : Sort.PermIn x mid d4 d5) (hs : Srt x mid d5) : Rel a b d (mid + 1) y d5 := by
  have h1 := h.ax; have h2 := h.xy; have h3 := h.yb; have h4 := h.sz; have h5 := h.size
  have o1 := ho.am; have o2 := ho.mb; have o3 := ho.perm.1
  have hp2 : Sort.PermIn x y d4 d5 := Sort.permIn_mono _ _ _ _ x y (Nat.le_refl _) (by omega) (by omega) hp
  have hm := (h.more ho.perm).more hp2
  have em : d5[mid]! = d4[mid]! := hp.2.1 mid (Or.inr (Nat.le_refl _))
  have eL : ∀ t, x ≤ t → t < mid → d5[t]! < d5[mid]! := by
    rw [em]
    exact Sort.permIn_all d4 d5 x mid (fun v => v < d4[mid]!) (by omega) hp (fun t a b => tl.1 (ho.lo t a b))
  have eR : ∀ t, mid + 1 ≤ t → t < y → d5[mid]! ≤ d5[t]! := fun t a b => by
    rw [em, hp.2.1 t (Or.inr (by omega))]; exact nl.1 (ho.hi t (by omega) b)
  refine ⟨by omega, by omega, h3, h4, hm.perm, .inr (fun t a b => by rw [Nat.add_sub_cancel]; exact eR t a b), ?_⟩
  intro d' hq hs2
  refine hm.cont d' (Sort.permIn_mono _ _ _ _ x y (by omega) (Nat.le_refl _) (by rw [hp.1]; omega) hq) ?_
  have hall := Sort.permIn_all d5 d' (mid + 1) y (fun v => d5[mid]! ≤ v) (by rw [hp.1]; omega) hq eR
  intro i j hi hij hj
  by_cases c1 : i < mid
  · rw [hq.2.1 i (Or.inl (by omega))]
    by_cases c2 : j < mid
    · rw [hq.2.1 j (Or.inl (by omega))]; exact hs i j hi hij c2
    · have e1 := eL i hi c1
      by_cases c3 : j = mid
      · rw [c3, hq.2.1 mid (Or.inl (by omega))]; omega
      · have := hall j (by omega) hj; omega
  · by_cases c3 : i = mid
    · rw [c3, hq.2.1 mid (Or.inl (by omega))]; exact hall j (by omega) hj
    · exact hs2 i j (by omega) hij hj

theorem Rel.right {a b : Nat} {d : Array Int} {x y mid : Nat} {dk d4 d5 : Array Int} (h : Rel a b d x y dk) (ho : PartOut x y dk d4 mid) (hp : Sort.PermIn (mid + 1) y d4 d5) (hs : Srt (mid + 1) y d5) : Rel a b d x mid d5 := by
  have h1 := h.ax; have h2 := h.xy; have h3 := h.yb; have h4 := h.sz; have h5 := h.size
  have o1 := ho.am; have o2 := ho.mb; have o3 := ho.perm.1
  have hp2 : Sort.PermIn x y d4 d5 := Sort.permIn_mono _ _ _ _ x y (by omega) (Nat.le_refl _) (by omega) hp
  have hm := (h.more ho.perm).more hp2
  have em : d5[mid]! = d4[mid]! := hp.2.1 mid (Or.inl (by omega))
  have eR : ∀ t, mid + 1 ≤ t → t < y → d5[mid]! ≤ d5[t]! := by
    rw [em]
    exact Sort.permIn_all d4 d5 (mid + 1) y (fun v => d4[mid]! ≤ v) (by omega) hp (fun t a b => nl.1 (ho.hi t (by omega) b))
  have eL : ∀ t, x ≤ t → t < mid → d5[t]! < d5[mid]! := fun t a b => by
    rw [em, hp.2.1 t (Or.inl (by omega))]; exact tl.1 (ho.lo t a b)
  refine ⟨h1, o1, by omega, h4, hm.perm, hm.low.imp id (fun h t a b => h t a (by omega)), ?_⟩
  intro d' hq hs2
  refine hm.cont d' (Sort.permIn_mono _ _ _ _ x y (Nat.le_refl _) (by omega) (by rw [hp.1]; omega) hq) ?_
  have hall := Sort.permIn_all d5 d' x mid (fun v => v < d5[mid]!) (by rw [hp.1]; omega) hq eL
  intro i j hi hij hj
  by_cases c1 : i < mid
  · by_cases c2 : j < mid
    · exact hs2 i j hi hij c2
    · have e1 := hall i hi c1
      rw [hq.2.1 j (Or.inr (by omega))]
      by_cases c3 : j = mid
      · rw [c3]; omega
      · have := eR j (by omega) hj; omega
  · rw [hq.2.1 i (Or.inr (by omega)), hq.2.1 j (Or.inr (by omega))]
    by_cases c3 : i = mid
    · rw [c3]; exact eR j (by omega) hj
    · exact hs i j (by omega) hij hj

end Go.Proofs.Ybulkebla
