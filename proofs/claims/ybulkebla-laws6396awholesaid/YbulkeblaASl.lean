import Derived.Test.YbulkeblaASo
/-! sort.Slice (32) at an own row of sections, of spans. -/
namespace Go.Proofs.Ybulkebla
open Go.Shelf Go.RowKit Go.Lib
set_option linter.unusedVariables false
set_option linter.unusedSectionVars false
variable [Inhabited Rn] [Inhabited Hs] [Inhabited Sc]

def AscR (l : List Sc) : Prop := ∀ i j, i < j → j < l.length → rank (l.getD i default).id ≤ rank (l.getD j default).id
def AscF (l : List Hs) : Prop := ∀ i j, i < j → j < l.length → (l.getD i default).first ≤ (l.getD j default).first

theorem getD_map {α β : Type} [Inhabited α] [Inhabited β] (f : α → β) (l : List α) (i : Nat) (h : i < l.length) : (l.map f).getD i default = f (l.getD i default) := by
  rw [List.getD_eq_getElem?_getD, List.getD_eq_getElem?_getD, List.getElem?_map, List.getElem?_eq_getElem h]; rfl

theorem sortSecOwn (B : Nat) (v : Value) (l : List Sc) (pres : Nat → Bool) (hl : ∀ c ∈ l, pres c.id = true) (cb C pb nb sb S P p : Nat) (w : World) (hsz : l.length ≤ 1000000) (h : w.ownsRow B 56 2 v l.length (fl Sc.enc l))
    (h1 : w.cell? ⟨cb, 0, none⟩ = some (.pointer (some ⟨C, 0, none⟩))) (h2 : w.cell? ⟨pb, 0, none⟩ = some (.int .i64 p))
    (h3 : w.cell? ⟨C, 9, none⟩ = some (.slice (some ⟨nb, 0, none⟩) S S)) (h4 : w.cell? ⟨C, 7, none⟩ = some (.slice (some ⟨sb, 0, none⟩) P P)) (h5 : w.cell? ⟨sb, p, none⟩ = some v)
    (hp : p < P) (hP : P ≤ 6) (hS : S ≤ 6) (hN : ∀ t, pres t = true → t < S ∧ w.cell? ⟨nb, t, none⟩ = some (.string (nm (t : Int))))
    (hne : ∀ g, v.ownBlock = some g → cb ≠ g ∧ pb ≠ g ∧ C ≠ g ∧ sb ≠ g ∧ nb ≠ g) (hlt : cb < w.heap.size ∧ pb < w.heap.size ∧ C < w.heap.size ∧ sb < w.heap.size ∧ nb < w.heap.size) :
    Calls Yba.prog 32 #[.iface 54 v, .func (.func 33) #[] #[.pointer (some ⟨cb, 0, none⟩), .pointer (some ⟨pb, 0, none⟩)]] w fun e w' =>
      e = .returned (.tuple #[]) ∧ ∃ l', l'.Perm l ∧ AscR l' ∧ w'.ownsRow B 56 2 v l.length (fl Sc.enc l') ∧ w.grownBy w' v.ownBlock := by
  have tiny : l.length ≤ 1 → AscR l := fun hh i j h1 h2 => by omega
  rcases Joins.ownsRow_forms h with ⟨rfl, h0⟩ | ⟨g, cap, rfl⟩
  · refine (tinySec0 none 0 _ _ _ w).mono ?_
    rintro e w' ⟨rfl, os, rfl⟩
    exact ⟨rfl, l, List.Perm.refl _, tiny (by omega), kept_none h (grow_grown _ _ _), grow_grown _ _ _⟩
  · have gl := h.lt g rfl
    by_cases h0 : l.length = 0
    · rw [h0]
      refine (tinySec0 _ cap _ _ _ w).mono ?_
      rintro e w' ⟨rfl, os, rfl⟩
      rw [h0] at h
      exact ⟨rfl, l, List.Perm.refl _, tiny (by omega), kept_none h (grow_grown _ _ _), grow_grown _ _ _⟩
    by_cases h1' : l.length = 1
    · rw [h1']
      refine (tinySec1 _ cap _ _ _ w).mono ?_
      rintro e w' ⟨rfl, os, rfl⟩
      rw [h1'] at h
      exact ⟨rfl, l, List.Perm.refl _, tiny (by omega), kept_none h (grow_grown _ _ _), grow_grown _ _ _⟩
    · have hpos : 0 < l.length := by omega
      haveI : Inhabited (Named pres) := ⟨⟨l[0], hl _ (List.getElem_mem _)⟩⟩
      obtain ⟨d, hd⟩ : ∃ d : List (Named pres), d.map (fun x => x.val) = l := ⟨l.pmap (fun c h => ⟨c, h⟩) hl, by simp [List.map_pmap]⟩
      have hdl : d.length = l.length := by rw [← hd]; simp
      have hfl : ∀ x : List (Named pres), fl (Named.enc (pres := pres)) x = fl Sc.enc (x.map (fun x => x.val)) := fun x => by unfold fl; rw [List.map_map]; rfl
      have hk : ∀ x : Named pres, (Named.enc x).length = 2 := fun _ => rfl
      have hH := holds_own (Named.enc (pres := pres)) 2 hk (by omega) (n := l.length) (cap := cap) (g := g) (B := B) (e := 56) (w := w) d.toArray (by simp [hdl]) (by rw [List.toList_toArray, hfl, hd]; exact h)
      have hn := hne g rfl
      have hc := slice32Sec pres g 0 cap cb C pb nb sb S P p d.toArray (by simp [hdl]; omega) (by simp [hdl]; omega) w hH gl.2 h1 h2 h3 h4 (by rw [List.size_toArray, hdl]; exact h5) hp hP hS hN ⟨hlt.1, hn.1⟩ ⟨hlt.2.1, hn.2.1⟩ ⟨hlt.2.2.1, hn.2.2.1⟩ ⟨hlt.2.2.2.1, hn.2.2.2.1⟩ ⟨hlt.2.2.2.2, hn.2.2.2.2⟩
      rw [List.size_toArray, hdl] at hc
      refine hc.mono ?_
      rintro e w' ⟨rfl, d', m, os, pm, q, rfl⟩
      have ps : d'.size = l.length := by have := pm.1; simpa [hdl] using this
      have pl : d'.toList.Perm d := by
        have := perm_list (d := d.toArray) (d' := d') (by simpa [hdl] using pm)
        simpa using this
      refine ⟨rfl, d'.toList.map (fun x => x.val), ?_, ?_, ?_, sorted_grown _ _ _ _ _ _ _ _⟩
      · have := pl.map (fun x => x.val)
        rw [hd] at this; exact this
      · intro i j hij hj
        have hj2 : j < d'.size := by simpa using hj
        have := q i j (Nat.zero_le _) hij (by omega)
        rw [getD_map _ _ i (by simp; omega), getD_map _ _ j (by simpa using hj), ← getD_arr d' i (by omega), ← getD_arr d' j hj2]
        simp only [ltName, decide_eq_false_iff_not] at this
        omega
      · have := own_sorted (Named.enc (pres := pres)) 2 hk (by omega) h d' ps m os
        rw [hfl] at this
        exact this

theorem sortSpanOwn (B : Nat) (v : Value) (l : List Hs) (cb C : Nat) (w : World) (hsz : l.length ≤ 1000000) (h : w.ownsRow B 35 3 v l.length (fl Hs.enc l))
    (h1 : w.cell? ⟨cb, 0, none⟩ = some (.pointer (some ⟨C, 0, none⟩))) (h2 : w.cell? ⟨C, 5, none⟩ = some v)
    (hne : ∀ g, v.ownBlock = some g → cb ≠ g ∧ C ≠ g) (hlt : cb < w.heap.size ∧ C < w.heap.size) :
    Calls Yba.prog 32 #[.iface 36 v, .func (.func 34) #[] #[.pointer (some ⟨cb, 0, none⟩)]] w fun e w' =>
      e = .returned (.tuple #[]) ∧ ∃ l', l'.Perm l ∧ AscF l' ∧ w'.ownsRow B 35 3 v l.length (fl Hs.enc l') ∧ w.grownBy w' v.ownBlock := by
  have tiny : l.length ≤ 1 → AscF l := fun hh i j h1 h2 => by omega
  rcases Joins.ownsRow_forms h with ⟨rfl, h0⟩ | ⟨g, cap, rfl⟩
  · refine (tinySpan0 none 0 _ _ _ w).mono ?_
    rintro e w' ⟨rfl, os, rfl⟩
    exact ⟨rfl, l, List.Perm.refl _, tiny (by omega), kept_none h (grow_grown _ _ _), grow_grown _ _ _⟩
  · have gl := h.lt g rfl
    by_cases h0 : l.length = 0
    · rw [h0]
      refine (tinySpan0 _ cap _ _ _ w).mono ?_
      rintro e w' ⟨rfl, os, rfl⟩
      rw [h0] at h
      exact ⟨rfl, l, List.Perm.refl _, tiny (by omega), kept_none h (grow_grown _ _ _), grow_grown _ _ _⟩
    by_cases h1' : l.length = 1
    · rw [h1']
      refine (tinySpan1 _ cap _ _ _ w).mono ?_
      rintro e w' ⟨rfl, os, rfl⟩
      rw [h1'] at h
      exact ⟨rfl, l, List.Perm.refl _, tiny (by omega), kept_none h (grow_grown _ _ _), grow_grown _ _ _⟩
    · have hk : ∀ x : Hs, (Hs.enc x).length = 3 := fun _ => rfl
      have hH := holds_own Hs.enc 3 hk (by omega) l.toArray (by simp) h
      have hn := hne g rfl
      have hc := slice32Span g 0 cap cb C l.toArray (by simp; omega) (by simp; omega) w hH gl.2 h1 hlt.1 hn.1 (by rw [List.size_toArray]; exact h2) hlt.2 hn.2
      rw [List.size_toArray] at hc
      refine hc.mono ?_
      rintro e w' ⟨rfl, d', m, os, pm, q, rfl⟩
      have ps : d'.size = l.length := by have := pm.1; simpa using this
      refine ⟨rfl, d'.toList, ?_, ?_, ?_, sorted_grown _ _ _ _ _ _ _ _⟩
      · have := perm_list (d := l.toArray) (d' := d') (by simpa using pm)
        simpa using this
      · intro i j hij hj
        have hj2 : j < d'.size := by simpa using hj
        have := q i j (Nat.zero_le _) hij (by omega)
        rw [← getD_arr d' i (by omega), ← getD_arr d' j hj2]
        simp only [ltSpan, decide_eq_false_iff_not] at this
        omega
      · exact own_sorted Hs.enc 3 hk (by omega) h d' ps m os

end Go.Proofs.Ybulkebla
