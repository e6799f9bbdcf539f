import Derived.Test.YbulkeblaAK7
/-! The law's plain side. -/
namespace Go.Proofs.Ybulkebla
open Go.RowKit Go.Lib
set_option linter.unusedVariables false
set_option linter.unusedSectionVars false
variable [Inhabited Rn] [Inhabited Hs] [Inhabited Sc]

theorem sel_perm {d d' : List Rn} (p : d'.Perm d) (k : Nat) : (sel k d').Perm (sel k d) := p.filter _
theorem hasId_perm {d d' : List Rn} (p : d'.Perm d) (k : Nat) : hasId k d' = hasId k d := by
  unfold hasId
  rw [Bool.eq_iff_iff, List.any_eq_true, List.any_eq_true]
  exact ⟨fun ⟨x, h1, h2⟩ => ⟨x, p.mem_iff.1 h1, h2⟩, fun ⟨x, h1, h2⟩ => ⟨x, p.mem_iff.2 h1, h2⟩⟩
theorem hasId_sel (d : List Rn) (k : Nat) : hasId k d = !(sel k d).isEmpty := by
  unfold hasId sel
  induction d with
  | nil => rfl
  | cons r d ih =>
    rw [List.any_cons, List.filter_cons]
    by_cases h : r.id = (k : Int)
    · simp [h]
    · simp only [h, decide_false, Bool.false_or]; exact ih
theorem flat_perm {α : Type} (f g : Nat → List α) (h : ∀ q, (f q).Perm (g q)) : ∀ l : List Nat, (l.flatMap f).Perm (l.flatMap g)
  | [] => List.Perm.refl _
  | x :: l => by rw [List.flatMap_cons, List.flatMap_cons]; exact (h x).append (flat_perm f g h l)

def f6 (n : Nat) : Fin 6 := ⟨n % 6, Nat.mod_lt _ (by omega)⟩
theorem f6_val {n : Nat} (h : n < 6) : (f6 n).val = n := Nat.mod_eq_of_lt h

theorem list_of_ids : ∀ {a b : List Sc}, a.map Sc.id = b.map Sc.id → (∀ x ∈ a, ∀ y ∈ b, x.id = y.id → x.items = y.items) → a = b
  | [], [], _, _ => rfl
  | [], _ :: _, h, _ => by simp at h
  | _ :: _, [], h, _ => by simp at h
  | x :: a, y :: b, h, hh => by
    simp only [List.map_cons, List.cons.injEq] at h
    have h1 := hh x List.mem_cons_self y List.mem_cons_self h.1
    have h2 := list_of_ids h.2 (fun u hu v hv => hh u (List.mem_cons_of_mem _ hu) v (List.mem_cons_of_mem _ hv))
    obtain ⟨i1, t1⟩ := x
    obtain ⟨i2, t2⟩ := y
    simp only at h h1
    rw [h.1, h1, h2]

/-- A peer's sections as index leaves them are those that the law expects. -/
theorem secs_eq {S : Nat} (hS : S ≤ 6) {d d' : List Rn} (p : d'.Perm d) (hF : Fine S d) {gs l : List Sc} (hl : Wsl S (fun k => sel k d) 6 l) (hg : Secs (fun j => hasId j d') (fun _ => false) (fun k => sel k d') gs) (ha : AscR gs) : gs = l := by
  have hlow : ∀ j, hasId j d' = true → j < S := fun j hj => by
    rw [hasId_perm p] at hj
    obtain ⟨r, hr, e⟩ := List.any_eq_true.1 hj
    obtain ⟨k2, hk2, e2⟩ := (hF r hr).1
    simp only [decide_eq_true_eq] at e
    omega
  have hid : ∀ c ∈ gs, c.id < S := fun c hc => hlow c.id ((hg.mem c.id (hg.low c hc)).1 (List.mem_map.2 ⟨c, hc, rfl⟩)).1
  have hgi : ((gs.map Sc.id).map f6) = ordF.filter (fun i => hasId i.val d') := by
    refine by_order (fun i => hasId i.val d') _ ?_ (fun i => ?_) ?_
    · rw [List.Nodup, List.pairwise_map]
      refine List.Pairwise.imp_of_mem (fun {a b} ha hb hab e => ?_) hg.nd
      obtain ⟨x, hx, rfl⟩ := List.mem_map.1 ha
      obtain ⟨y, hy, rfl⟩ := List.mem_map.1 hb
      have e1 := congrArg Fin.val e
      rw [f6_val (by have := hid x hx; omega), f6_val (by have := hid y hy; omega)] at e1
      exact hab e1
    · have hi := i.isLt
      constructor
      · intro h
        obtain ⟨k, hk, e⟩ := List.mem_map.1 h
        obtain ⟨x, hx, rfl⟩ := List.mem_map.1 hk
        have e1 := congrArg Fin.val e
        rw [f6_val (by have := hid x hx; omega)] at e1
        rw [← e1]
        exact ((hg.mem x.id (hg.low x hx)).1 hk).1
      · intro h
        have hm := (hg.mem i.val (by omega)).2 ⟨h, rfl⟩
        exact List.mem_map.2 ⟨i.val, hm, Fin.ext (f6_val hi)⟩
    · intro i j _ hij hj
      have hj2 : j < gs.length := by simpa using hj
      have hi2 : i < gs.length := by omega
      have h1 := ha i j hij hj2
      rw [getElem!_pos _ j (by simpa using hj), getElem!_pos _ i (by simp; omega)]
      simp only [ltRank, List.getElem_toArray, List.getElem_map, decide_eq_false_iff_not]
      rw [f6_val (by have := hid gs[j] (List.getElem_mem _); omega), f6_val (by have := hid gs[i] (List.getElem_mem _); omega)]
      rw [List.getD_eq_getElem?_getD, List.getD_eq_getElem?_getD, List.getElem?_eq_getElem hi2, List.getElem?_eq_getElem hj2] at h1
      simp only [Option.getD_some] at h1
      omega
  have hids : gs.map Sc.id = l.map Sc.id := by
    have e1 : gs.map Sc.id = ((gs.map Sc.id).map f6).map Fin.val := by
      rw [List.map_map]
      conv => lhs; rw [← List.map_id (gs.map Sc.id)]
      apply List.map_congr_left
      intro k hk
      obtain ⟨x, hx, rfl⟩ := List.mem_map.1 hk
      exact (f6_val (n := x.id) (by have := hid x hx; omega)).symm
    rw [e1, hgi, hl.ids]
    have e2 : ordL.take 6 = ordF.map Fin.val := rfl
    rw [e2, List.filter_map]
    congr 1
    apply List.filter_congr
    intro i _
    simp only [Function.comp]
    rw [hasId_perm p, hasId_sel]
    by_cases h : (sel i.val d).isEmpty = true
    · simp [h]
    · have h3 : i.val < S := hlow i.val (by rw [hasId_perm p, hasId_sel]; simpa using h)
      simp [h3]
  refine list_of_ids hids (fun x hx y hy e => ?_)
  obtain ⟨acc, h1, h2⟩ := hg.it x hx
  obtain ⟨acc', h3, h4⟩ := hl.it y hy
  rw [h2, h4, h3 (sel x.id d') acc (by rw [← e]; exact sel_perm p x.id) h1]

end Go.Proofs.Ybulkebla
