import Derived.StillTailTactics
import Derived.Deep.RegionHeld3
/-! A statement that draws its order: its loads first, under a condition S on the memory; then what makes memory, S anew behind each; then, in order, what waits for all of those. -/
namespace Go.Proofs.Ybulkebla
open Go
set_option linter.unusedVariables false
section
variable {P : Program} {ops : Array Oper} {Q : Exit → Act → World → Prop} {md : Region.Mode} {S : World → Prop} {L : Nat}

/-- Whatever order is picked from here on; S behind every operation ahead of number L. -/
def wpAnyT (P : Program) (md : Region.Mode) (ops : Array Oper) (Q : Exit → Act → World → Prop) (S : World → Prop) (L : Nat) : Nat → Array Bool → Act → World → Prop
  | 0, listed, a, w => Region.ready md ops listed = [] ∧ Q .normal a w
  | fuel + 1, listed, a, w =>
    (Region.ready md ops listed = [] → Q .normal a w) ∧
    ∀ i ∈ Region.ready md ops listed, wpOp P ops Q i (fun a' w' => (L ≤ i ∨ S w') ∧ wpAnyT P md ops Q S L fuel (listed.setIfInBounds i true) a' w') a w

theorem wpAny_of_T : ∀ (fuel : Nat) (listed : Array Bool) (a : Act) (w : World), wpAnyT P md ops Q S L fuel listed a w → wpAny P md ops Q fuel listed a w
  | 0, _, _, _, h => h
  | fuel + 1, _, _, _, h => ⟨h.1, fun i hi => wpOp_mono (fun a' w' h' => wpAny_of_T fuel _ a' w' h'.2) (h.2 i hi)⟩

theorem wpAnyT_first {i : Nat} {oi : Oper} {v : Value} (hi : ops[i]? = some oi) (hsel : ∀ (j : Nat) (o : Oper) cs b, ops[j]? = some o → o.op ≠ .select cs b)
    (hQ : ∀ c a w, Q (.panic c) (a.put oi.dst v) w → Q (.panic c) a w) (hlate : ∀ j, L ≤ j → j < ops.size → Region.waitsFor md ops j i = true) :
    ∀ (fuel : Nat) (listed : Array Bool) (a : Act) (w : World),
      (∀ j oj, ops[j]? = some oj → j ≠ i → listed.getD j true = false → (∀ e ∈ oj.after, Region.binds md e = true → e.on ≠ i) → oi.apart ops oj = true) →
      i ∈ Region.ready md ops listed → YieldsIf P ops S oi v a → S w →
      wpAnyT P md ops Q S L fuel (listed.setIfInBounds i true) (a.put oi.dst v) w → wpAnyT P md ops Q S L (fuel + 1) listed a w := by
  intro fuel
  induction fuel with
  | zero =>
    intro listed a w _ hr hy hS H
    refine ⟨fun h => (by rw [h] at hr; cases hr), fun j hj => ?_⟩
    by_cases hji : j = i
    · subst hji; exact hy.wpOp hi hS ⟨.inr hS, H⟩
    · have := ready_mono hj hji
      rw [H.1] at this
      cases this
  | succ fuel ih =>
    intro listed a w hfree hr hy hS H
    refine ⟨fun h => (by rw [h] at hr; cases hr), fun j hj => ?_⟩
    by_cases hji : j = i
    · subst hji; exact hy.wpOp hi hS ⟨.inr hS, H⟩
    · have h1 := H.2 j (ready_mono hj hji)
      obtain ⟨hjun, oj, hoj, hall⟩ := mem_ready.1 hj
      have hnot : ∀ e ∈ oj.after, Region.binds md e = true → e.on ≠ i := fun e he hb heq => by
        have h1 := hall e he hb
        have h0 := (mem_ready.1 hr).1
        rw [heq] at h1
        rcases Nat.lt_or_ge i listed.size with h' | h'
        · simp [h'] at h0 h1; rw [h0] at h1; cases h1
        · simp [Array.getElem?_eq_none h'] at h1
      have hnl : ¬ L ≤ j := fun hl => by
        obtain ⟨o', ho', e, he, hb, hon⟩ := Region.waitsFor_spec (hlate j hl (Array.getElem?_eq_some_iff.1 hoj).1)
        have : o' = oj := Option.some.inj (ho'.symm.trans hoj)
        subst this
        exact hnot e he hb hon
      have h2 := wpOp_putIf hoj (hfree j oj hoj hji hjun hnot) (fun cs b => hsel i oi cs b hi) (fun cs b => hsel j oj cs b hoj) hQ hy h1
      have hfree' : ∀ k ok, ops[k]? = some ok → k ≠ i → (listed.setIfInBounds j true).getD k true = false →
          (∀ e ∈ ok.after, Region.binds md e = true → e.on ≠ i) → oi.apart ops ok = true := fun k ok hk hki hun hno => by
        refine hfree k ok hk hki ?_ hno
        by_cases hjk : j = k
        · subst hjk; exact hjun
        · rw [getD_set_ne true hjk] at hun; exact hun
      refine wpOp_mono (fun a' w' h3 => ⟨h3.2.1, ih (listed.setIfInBounds j true) a' w' hfree' (ready_mono hr (Ne.symm hji)) h3.1 (h3.2.1.resolve_left hnl) ?_⟩) h2
      rw [Array.setIfInBounds_comm _ _ hji]
      exact h3.2.2

/-- The loads, in the text's order. -/
def wpHead (P : Program) (ops : Array Oper) (S : World → Prop) (K : Act → Prop) : List Oper → Act → Prop
  | [], a => K a
  | o :: l, a => ∃ v, YieldsIf P ops S o v a ∧ wpHead P ops S K l (a.put o.dst v)

theorem wpHead_step {K : Act → Prop} {o : Oper} {l : List Oper} {a : Act} (v : Value) (h1 : Region.wanted o (yielded ops a.tmps) = true) (h2 : ∀ w, S w → (execOp a.eval o).run P w = .ok (.value v) w) (h3 : wpHead P ops S K l (a.put o.dst v)) : wpHead P ops S K (o :: l) a :=
  ⟨v, .inl ⟨h1, h2⟩, h3⟩
theorem wpHead_nil {K : Act → Prop} {a : Act} (h : K a) : wpHead P ops S K [] a := h

/-- What makes memory, one operation at a time; then the rest. -/
def wpMid (P : Program) (ops : Array Oper) (Q : Exit → Act → World → Prop) (S : World → Prop) (tail : List Oper) : List Oper → Act → World → Prop
  | [], a, w => wpList P ops Q tail a w
  | o :: l, a, w => wpList P ops (Exit.then (fun a' w' => S w' ∧ wpMid P ops Q S tail l a' w') Q) [o] a w

theorem wpOp_then {i : Nat} {o : Oper} (ho : ops[i]? = some o) {K : Act → World → Prop} {a : Act} {w : World} (h : wpList P ops (Exit.then K Q) [o] a w) : wpOp P ops Q i K a w := by
  unfold wpOp
  simp only [ho]
  exact h

theorem anyT_tail : ∀ (l : List Oper) (k : Nat) (listed : Array Bool) (a : Act) (w : World), (∀ j, l[j]? = ops[k + j]?) → L ≤ k →
    Region.seqB md ops l.length k listed = true → wpList P ops Q l a w → wpAnyT P md ops Q S L l.length listed a w
  | [], _, _, _, _, _, _, hB, h => ⟨by simpa [Region.seqB] using hB, h⟩
  | o :: l, k, listed, a, w, hl, hL, hB, h => by
    have h0 : ops[k]? = some o := by simpa using (hl 0).symm
    simp only [List.length_cons, Region.seqB, Bool.and_eq_true, decide_eq_true_eq] at hB
    refine ⟨fun h1 => (by rw [hB.1] at h1; cases h1), fun i hi => ?_⟩
    rw [hB.1] at hi
    have hik : i = k := by simpa using hi
    subst hik
    have hw : wpOp P ops Q i (wpList P ops Q l) a w := by unfold wpOp; simp only [h0]; exact h
    exact wpOp_mono (fun a' w' h' => ⟨.inl hL, anyT_tail l (i + 1) _ a' w' (fun j => by have := hl (j + 1); simpa [Nat.add_assoc, Nat.add_comm 1 j] using this) (by omega) hB.2 h'⟩) hw

theorem anyT_mid (tail : List Oper) (ht : ∀ j, tail[j]? = ops[L + j]?) : ∀ (l : List Oper) (k : Nat) (listed : Array Bool) (a : Act) (w : World), (∀ j, j < l.length → l[j]? = ops[k + j]?) → k + l.length = L →
    Region.seqB md ops (l.length + tail.length) k listed = true → wpMid P ops Q S tail l a w → wpAnyT P md ops Q S L (l.length + tail.length) listed a w
  | [], k, listed, a, w, _, hk, hB, h => by
    have : k = L := by simpa using hk
    subst this
    simp only [List.length_nil, Nat.zero_add] at hB ⊢
    exact anyT_tail tail k listed a w ht (Nat.le_refl _) hB h
  | o :: l, k, listed, a, w, hl, hk, hB, h => by
    have h0 : ops[k]? = some o := by simpa using (hl 0 (by simp)).symm
    rw [show (o :: l).length + tail.length = (l.length + tail.length) + 1 by simp only [List.length_cons]; omega] at hB ⊢
    simp only [Region.seqB, Bool.and_eq_true, decide_eq_true_eq] at hB
    refine ⟨fun h1 => (by rw [hB.1] at h1; cases h1), fun i hi => ?_⟩
    rw [hB.1] at hi
    have hik : i = k := by simpa using hi
    subst hik
    refine wpOp_mono (fun a' w' h' => ⟨.inr h'.1, anyT_mid tail ht l (i + 1) _ a' w' (fun j hj => by have := hl (j + 1) (by simp; omega); simpa [Nat.add_assoc, Nat.add_comm 1 j] using this) (by simp only [List.length_cons] at hk; omega) hB.2 h'.2⟩) (wpOp_then h0 h)

theorem anyT_head {g n : Nat} (hsel : Region.noSelect ops = true) (hQ : ∀ c a w, ¬ Q (.panic c) a w) (hlate : ∀ i, i < n → ∀ j, L ≤ j → j < ops.size → Region.waitsFor md ops j i = true) {K : Act → Prop} {w : World} (hS : S w)
    (hK : ∀ listed a, Region.seqB md ops g n listed = true → K a → wpAnyT P md ops Q S L g listed a w) :
    ∀ (l : List Oper) (k : Nat) (listed : Array Bool) (a : Act), (∀ j, j < l.length → l[j]? = ops[k + j]?) → k + l.length = n →
    Region.lexHead md ops g l.length k listed = true → wpHead P ops S K l a → wpAnyT P md ops Q S L (l.length + g) listed a w
  | [], k, listed, a, _, hk, hB, h => by
    have : k = n := by simpa using hk
    subst this
    rw [show ([] : List Oper).length + g = g by simp]
    exact hK listed a (by simpa [Region.lexHead] using hB) h
  | o :: l, k, listed, a, hl, hk, hB, h => by
    have h0 : ops[k]? = some o := by simpa using (hl 0 (by simp)).symm
    simp only [List.length_cons, Region.lexHead, Bool.and_eq_true] at hB
    obtain ⟨⟨hr, hf⟩, hB'⟩ := hB
    obtain ⟨v, hy, hrest⟩ := h
    have hr' : k ∈ Region.ready md ops listed := by simpa using hr
    rw [show (o :: l).length + g = (l.length + g) + 1 by simp only [List.length_cons]; omega]
    exact wpAnyT_first h0 (Region.noSelect_spec hsel) (fun c a w h => absurd h (hQ c _ w)) (hlate k (by simp only [List.length_cons] at hk; omega)) (l.length + g) listed a w (Region.free_spec h0 hf) hr' hy hS
      (anyT_head hsel hQ hlate hS hK l (k + 1) _ _ (fun j hj => by have := hl (j + 1) (by simp; omega); simpa [Nat.add_assoc, Nat.add_comm 1 j] using this) (by simp only [List.length_cons] at hk; omega) hB' hrest)

def lateB (md : Region.Mode) (ops : Array Oper) (n L : Nat) : Bool :=
  Region.noSelect ops && decide (n ≤ L) && decide (L ≤ ops.size) && Region.lexHead md ops (ops.size - n) n 0 (Array.replicate ops.size false) &&
    (List.range ops.size).all fun j => decide (j < L) || (List.range n).all fun i => Region.waitsFor md ops j i

/-- The first n only read; n .. L - 1 make memory; the rest waits for all those. -/
theorem wp_region_late {id : Nat} {a : Act} {w : World} {l : List Oper} (n L : Nat) (S : World → Prop) (hm : P.follows .mixedOrders = true) (hB : lateB .any l.toArray n L = true) (hS : S { w with drawn := w.drawn + 1 })
    (h : wpHead P l.toArray S (fun a' => wpMid P l.toArray (NoPanic Q) S (l.drop L) ((l.drop n).take (L - n)) a' { w with drawn := w.drawn + 1 }) (l.take n) a) : (Code.region id l.toArray true).wp P Q a w := by
  simp only [lateB, Bool.and_eq_true, decide_eq_true_eq] at hB
  obtain ⟨⟨⟨⟨hsel, hnL⟩, hLs⟩, hlex⟩, hlate⟩ := hB
  have hLs' : L ≤ l.length := by simpa using hLs
  have htl : (l.take n).length = n := by simp; omega
  have hml : ((l.drop n).take (L - n)).length = L - n := by simp; omega
  have hdl : (l.drop L).length = l.length - L := by simp
  have hlate' : ∀ i, i < n → ∀ j, L ≤ j → j < l.toArray.size → Region.waitsFor .any l.toArray j i = true := fun i hi j hj hjs => by
    have h1 := List.all_eq_true.1 hlate j (List.mem_range.2 hjs)
    simp only [Bool.or_eq_true, decide_eq_true_eq] at h1
    rcases h1 with h1 | h1
    · omega
    · exact List.all_eq_true.1 h1 i (List.mem_range.2 hi)
  refine wp_region_noPanic (wp_region_any hm (wpAny_of_T (S := S) (L := L) _ _ _ _ ?_))
  have H := anyT_head (P := P) (Q := NoPanic Q) (md := .any) (S := S) (L := L) (g := l.toArray.size - n) (n := n) hsel (fun _ _ _ h => h) hlate' hS (K := fun a' => wpMid P l.toArray (NoPanic Q) S (l.drop L) ((l.drop n).take (L - n)) a' { w with drawn := w.drawn + 1 })
    (fun listed a' hs hk => by
      have h2 := anyT_mid (P := P) (Q := NoPanic Q) (md := .any) (S := S) (L := L) (ops := l.toArray) (l.drop L) (fun j => by simp [List.getElem?_drop]) ((l.drop n).take (L - n)) n listed a' _ (fun j hj => by
        rw [hml] at hj
        rw [List.getElem?_take_of_lt hj, List.getElem?_drop]; simp) (by rw [hml]; omega) (by rw [hml, hdl, show L - n + (l.length - L) = l.toArray.size - n by simp; omega]; exact hs) hk
      rw [hml, hdl, show L - n + (l.length - L) = l.toArray.size - n by simp; omega] at h2
      exact h2) (l.take n) 0 (Array.replicate l.toArray.size false) a (fun j hj => by
        rw [htl] at hj
        rw [List.getElem?_take_of_lt hj]; simp) (by rw [htl]; omega) (by rw [htl]; exact hlex) h
  rw [htl, show n + (l.toArray.size - n) = l.toArray.size by simp; omega] at H
  exact H
end
end Go.Proofs.Ybulkebla
