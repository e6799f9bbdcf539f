import Derived.Test.YbulkeblaRows
/-! Law A's plain side: spans in normal form are told by what they cover. -/
namespace Go.Proofs.Ybulkebla
set_option linter.unusedVariables false

structure Sp where
  first : Int
  last : Int

/-- Increasing, not empty, not touching. -/
def NF (l : List Sp) : Prop := l.Pairwise (fun a b => a.last + 1 < b.first) ∧ ∀ s ∈ l, s.first ≤ s.last
def cov (l : List Sp) (x : Int) : Prop := ∃ s ∈ l, s.first ≤ x ∧ x ≤ s.last
def tot : List Sp → Int
  | [] => 0
  | s :: l => (s.last - s.first + 1) + tot l

theorem tot_append (a b : List Sp) : tot (a ++ b) = tot a + tot b := by
  induction a with
  | nil => simp [tot]
  | cons s a ih => simp only [List.cons_append, tot, ih]; omega

theorem cov_append {a b : List Sp} {x : Int} : cov (a ++ b) x ↔ cov a x ∨ cov b x := by
  simp only [cov, List.mem_append]
  constructor
  · rintro ⟨s, h | h, h2⟩
    · exact .inl ⟨s, h, h2⟩
    · exact .inr ⟨s, h, h2⟩
  · rintro (⟨s, h, h2⟩ | ⟨s, h, h2⟩)
    · exact ⟨s, .inl h, h2⟩
    · exact ⟨s, .inr h, h2⟩
theorem cov_one {s : Sp} {x : Int} : cov [s] x ↔ s.first ≤ x ∧ x ≤ s.last := by simp [cov]
theorem cov_nil {x : Int} : ¬ cov [] x := by simp [cov]
theorem cov_cons {s : Sp} {l : List Sp} {x : Int} : cov (s :: l) x ↔ (s.first ≤ x ∧ x ≤ s.last) ∨ cov l x := by
  rw [show s :: l = [s] ++ l from rfl, cov_append, cov_one]

theorem NF.tail {s : Sp} {l : List Sp} (h : NF (s :: l)) : NF l := ⟨(List.pairwise_cons.1 h.1).2, fun t ht => h.2 t (List.mem_cons_of_mem _ ht)⟩
theorem NF.head {s : Sp} {l : List Sp} (h : NF (s :: l)) : s.first ≤ s.last := h.2 s List.mem_cons_self
theorem NF.gap {s : Sp} {l : List Sp} (h : NF (s :: l)) {t : Sp} (ht : t ∈ l) : s.last + 1 < t.first := (List.pairwise_cons.1 h.1).1 t ht
theorem NF.tail_cov {s : Sp} {l : List Sp} (h : NF (s :: l)) {x : Int} : cov l x ↔ cov (s :: l) x ∧ s.last < x := by
  rw [cov_cons]
  constructor
  · rintro ⟨t, ht, h1, h2⟩
    have := h.gap ht
    exact ⟨.inr ⟨t, ht, h1, h2⟩, by omega⟩
  · rintro ⟨h1 | h1, h2⟩
    · omega
    · exact h1
theorem NF.least {s : Sp} {l : List Sp} (h : NF (s :: l)) {x : Int} (hx : cov (s :: l) x) : s.first ≤ x := by
  rcases cov_cons.1 hx with h1 | ⟨t, ht, h1, h2⟩
  · exact h1.1
  · have := h.gap ht; have := h.head; omega

theorem nf_unique : ∀ (a b : List Sp), NF a → NF b → (∀ x, cov a x ↔ cov b x) → a = b
  | [], [], _, _, _ => rfl
  | [], t :: b, _, hb, h => (cov_nil ((h t.first).2 (cov_cons.2 (.inl ⟨Int.le_refl _, hb.head⟩)))).elim
  | s :: a, [], ha, _, h => (cov_nil ((h s.first).1 (cov_cons.2 (.inl ⟨Int.le_refl _, ha.head⟩)))).elim
  | s :: a, t :: b, ha, hb, h => by
    have e1 : s.first = t.first := by
      have h1 := hb.least ((h s.first).1 (cov_cons.2 (.inl ⟨Int.le_refl _, ha.head⟩)))
      have h2 := ha.least ((h t.first).2 (cov_cons.2 (.inl ⟨Int.le_refl _, hb.head⟩)))
      omega
    have gapA : ¬ cov (s :: a) (s.last + 1) := by
      rw [cov_cons]
      rintro (h1 | ⟨u, hu, h1, h2⟩)
      · omega
      · have := ha.gap hu; omega
    have gapB : ¬ cov (t :: b) (t.last + 1) := by
      rw [cov_cons]
      rintro (h1 | ⟨u, hu, h1, h2⟩)
      · omega
      · have := hb.gap hu; omega
    have hs := ha.head
    have ht := hb.head
    have e2 : s.last = t.last := by
      rcases Int.lt_trichotomy s.last t.last with c | c | c
      · exact (gapA ((h _).2 (cov_cons.2 (.inl ⟨by omega, by omega⟩)))).elim
      · exact c
      · exact (gapB ((h _).1 (cov_cons.2 (.inl ⟨by omega, by omega⟩)))).elim
    have e : s = t := by cases s; cases t; simp_all
    subst e
    congr 1
    exact nf_unique a b ha.tail hb.tail (fun x => by rw [ha.tail_cov, hb.tail_cov, h x])

theorem nf_push {acc : List Sp} {a b : Int} (h : NF acc) (hg : ∀ s ∈ acc, s.last + 1 < a) (hab : a ≤ b) : NF (acc ++ [⟨a, b⟩]) := by
  refine ⟨List.pairwise_append.2 ⟨h.1, List.pairwise_singleton _ _, fun s hs t ht => ?_⟩, ?_⟩
  · simp at ht; subst ht; exact hg s hs
  · intro s hs
    rcases List.mem_append.1 hs with h1 | h1
    · exact h.2 s h1
    · simp at h1; subst h1; exact hab

theorem NF.init {acc : List Sp} {s : Sp} (h : NF (acc ++ [s])) : NF acc ∧ (∀ t ∈ acc, t.last + 1 < s.first) ∧ s.first ≤ s.last := by
  obtain ⟨p1, _, p3⟩ := List.pairwise_append.1 h.1
  exact ⟨⟨p1, fun t ht => h.2 t (List.mem_append_left _ ht)⟩, fun t ht => p3 t ht s (by simp), h.2 s (by simp)⟩

theorem nf_extend {acc : List Sp} {s : Sp} {m : Int} (h : NF (acc ++ [s])) (hm : s.last ≤ m) : NF (acc ++ [⟨s.first, m⟩]) := by
  obtain ⟨h1, h2, h3⟩ := h.init
  exact nf_push h1 h2 (by omega)

/-- What merge knows: the spans cover what the runs so far cover; none begins behind the run to come. -/
structure MergeInv (done : List (Int × Int)) (acc : List Sp) : Prop where
  nf : NF acc
  cv : ∀ x, cov acc x ↔ ∃ r ∈ done, r.1 ≤ x ∧ x ≤ r.2
  top : ∀ s ∈ acc, ∃ r ∈ done, s.first = r.1
  nil : acc = [] → done = []

theorem merge_start : MergeInv [] [] := ⟨⟨List.Pairwise.nil, (fun _ h => by cases h)⟩, (fun x => by simp [cov]), (fun _ h => by cases h), fun _ => rfl⟩

theorem merge_new {done : List (Int × Int)} {acc : List Sp} {f l : Int} (h : MergeInv done acc) (hfl : f ≤ l) (hg : ∀ s ∈ acc, s.last + 1 < f) : MergeInv (done ++ [(f, l)]) (acc ++ [⟨f, l⟩]) := by
  refine ⟨nf_push h.nf hg hfl, fun x => ?_, ?_, ?_⟩
  · rw [cov_append, cov_one, h.cv x]
    constructor
    · rintro (⟨r, hr, h2⟩ | h2)
      · exact ⟨r, List.mem_append_left _ hr, h2⟩
      · exact ⟨(f, l), by simp, h2⟩
    · rintro ⟨r, hr, h2⟩
      rcases List.mem_append.1 hr with hr | hr
      · exact .inl ⟨r, hr, h2⟩
      · simp at hr; subst hr; exact .inr h2
  · intro s hs
    rcases List.mem_append.1 hs with hs | hs
    · obtain ⟨r, hr, e⟩ := h.top s hs; exact ⟨r, List.mem_append_left _ hr, e⟩
    · simp at hs; subst hs; exact ⟨(f, l), by simp, rfl⟩
  · intro e; simp at e

theorem merge_join {done : List (Int × Int)} {acc : List Sp} {s : Sp} {f l : Int} (h : MergeInv done (acc ++ [s])) (hfl : f ≤ l) (hs : ∀ r ∈ done, r.1 ≤ f) (hj : f - 1 ≤ s.last) :
    MergeInv (done ++ [(f, l)]) (acc ++ [⟨s.first, max s.last l⟩]) := by
  have hsf : s.first ≤ f := by obtain ⟨r, hr, e⟩ := h.top s (by simp); have := hs r hr; omega
  have hsl := (h.nf.init).2.2
  refine ⟨nf_extend h.nf (by omega), fun x => ?_, ?_, ?_⟩
  · have hc := h.cv x
    rw [cov_append, cov_one] at hc ⊢
    simp only []
    constructor
    · rintro (h2 | h2)
      · obtain ⟨r, hr, h3⟩ := hc.1 (.inl h2)
        exact ⟨r, List.mem_append_left _ hr, h3⟩
      · by_cases c : x ≤ s.last
        · obtain ⟨r, hr, h3⟩ := hc.1 (.inr ⟨h2.1, c⟩)
          exact ⟨r, List.mem_append_left _ hr, h3⟩
        · exact ⟨(f, l), by simp, by show f ≤ x; omega, by show x ≤ l; omega⟩
    · rintro ⟨r, hr, h2⟩
      rcases List.mem_append.1 hr with hr | hr
      · rcases hc.2 ⟨r, hr, h2⟩ with h3 | h3
        · exact .inl h3
        · exact .inr ⟨h3.1, by omega⟩
      · simp at hr; subst hr
        simp only [] at h2
        exact .inr ⟨by omega, by omega⟩
  · intro t ht
    rcases List.mem_append.1 ht with ht | ht
    · obtain ⟨r, hr, e⟩ := h.top t (List.mem_append_left _ ht); exact ⟨r, List.mem_append_left _ hr, e⟩
    · simp at ht; subst ht
      obtain ⟨r, hr, e⟩ := h.top s (by simp)
      exact ⟨r, List.mem_append_left _ hr, e⟩
  · intro e; simp at e

/-- What the bitmap's scan knows, ahead of x. -/
structure ScanInv (mk : Int → Prop) (lo x : Int) (acc : List Sp) : Prop where
  nf : NF acc
  cv : ∀ y, cov acc y ↔ mk y ∧ lo ≤ y ∧ y < x
  bnd : ∀ s ∈ acc, s.last < x
  last : mk (x - 1) → lo < x → ∃ b s, acc = b ++ [s] ∧ s.last = x - 1

theorem scan_start {mk : Int → Prop} {lo : Int} : ScanInv mk lo lo [] :=
  ⟨⟨List.Pairwise.nil, (fun _ h => by cases h)⟩, (fun y => by simp only [cov, List.not_mem_nil, false_and, exists_false, false_iff]; omega), (fun _ h => by cases h), fun _ h => by omega⟩
theorem scan_skip {mk : Int → Prop} {lo x : Int} {acc : List Sp} (h : ScanInv mk lo x acc) (hx : ¬ mk x) : ScanInv mk lo (x + 1) acc :=
  ⟨h.nf, fun y => by
      rw [h.cv y]
      constructor
      · rintro ⟨a, b, c⟩; exact ⟨a, b, by omega⟩
      · rintro ⟨a, b, c⟩
        refine ⟨a, b, ?_⟩
        by_cases e : y = x
        · subst e; exact (hx a).elim
        · omega,
    fun s hs => by have := h.bnd s hs; omega, fun hm => by rw [show x + 1 - 1 = x by omega] at hm; exact (hx hm).elim⟩
theorem scan_new {mk : Int → Prop} {lo x : Int} {acc : List Sp} (h : ScanInv mk lo x acc) (hlo : lo ≤ x) (hx : mk x) (hp : ¬ mk (x - 1)) : ScanInv mk lo (x + 1) (acc ++ [⟨x, x⟩]) := by
  have hgap : ∀ s ∈ acc, s.last + 1 < x := by
    intro s hs
    have h1 := h.bnd s hs
    by_cases e : s.last = x - 1
    · have h2 := h.nf.2 s hs
      have := (h.cv s.last).1 ⟨s, hs, h2, Int.le_refl _⟩
      rw [e] at this
      exact (hp this.1).elim
    · omega
  refine ⟨nf_push h.nf hgap (Int.le_refl _), fun y => ?_, ?_, fun _ _ => ⟨acc, ⟨x, x⟩, rfl, by show x = x + 1 - 1; omega⟩⟩
  · rw [cov_append, cov_one, h.cv y]
    simp only []
    constructor
    · rintro (⟨a, b, c⟩ | c)
      · exact ⟨a, b, by omega⟩
      · obtain rfl : y = x := by omega
        exact ⟨hx, hlo, by omega⟩
    · rintro ⟨a, b, c⟩
      by_cases e : y = x
      · exact .inr ⟨by omega, by omega⟩
      · exact .inl ⟨a, b, by omega⟩
  · intro s hs
    rcases List.mem_append.1 hs with hs | hs
    · have := h.bnd s hs; omega
    · simp at hs; subst hs; show x < x + 1; omega
theorem scan_more {mk : Int → Prop} {lo x : Int} {b : List Sp} {s : Sp} (h : ScanInv mk lo x (b ++ [s])) (hlo : lo ≤ x) (hx : mk x) (hs : s.last = x - 1) : ScanInv mk lo (x + 1) (b ++ [⟨s.first, x⟩]) := by
  have hsl := (h.nf.init).2.2
  refine ⟨nf_extend h.nf (by omega), fun y => ?_, ?_, fun _ _ => ⟨b, _, rfl, by show x = x + 1 - 1; omega⟩⟩
  · have hc := h.cv y
    rw [cov_append, cov_one] at hc ⊢
    simp only []
    constructor
    · rintro (c | c)
      · have := hc.1 (.inl c); exact ⟨this.1, this.2.1, by omega⟩
      · by_cases e : y = x
        · subst e; exact ⟨hx, hlo, by omega⟩
        · have := hc.1 (.inr ⟨c.1, by omega⟩); exact ⟨this.1, this.2.1, by omega⟩
    · rintro ⟨a, c1, c2⟩
      by_cases e : y = x
      · have := (h.cv (x - 1)).1 (cov_append.2 (.inr (cov_one.2 ⟨by omega, by omega⟩)))
        exact .inr ⟨by omega, by omega⟩
      · rcases hc.2 ⟨a, c1, by omega⟩ with c | c
        · exact .inl c
        · exact .inr ⟨c.1, by omega⟩
  · intro t ht
    rcases List.mem_append.1 ht with ht | ht
    · have := h.bnd t (List.mem_append_left _ ht); omega
    · simp at ht; subst ht; show x < x + 1; omega

/-- Both ways come to the same spans. -/
theorem merge_scan {done : List (Int × Int)} {acc acc' : List Sp} {mk : Int → Prop} {lo hi : Int} (h : MergeInv done acc) (k : ScanInv mk lo (hi + 1) acc') (hm : ∀ x, mk x ↔ ∃ r ∈ done, r.1 ≤ x ∧ x ≤ r.2)
    (hb : ∀ r ∈ done, lo ≤ r.1 ∧ r.2 ≤ hi) : acc = acc' :=
  nf_unique _ _ h.nf k.nf fun x => by
    rw [h.cv x, k.cv x, hm x]
    constructor
    · rintro ⟨r, hr, h1, h2⟩
      have := hb r hr
      exact ⟨⟨r, hr, h1, h2⟩, by omega, by omega⟩
    · rintro ⟨h1, _⟩; exact h1

end Go.Proofs.Ybulkebla
