import Derived.Test.YbulkeblaAL4
import Derived.Test.YbulkeblaASl
/-! index's first loop: what stands behind p peers. -/
namespace Go.Proofs.Ybulkebla
open Go.RowKit Go.Lib
set_option linter.unusedVariables false
set_option linter.unusedSectionVars false
variable [Inhabited Rn] [Inhabited Hs] [Inhabited Sc]

/-- Rows that are dropped, rows of nothing. -/
theorem Mm.weak {w0 w : World} {B : Nat} {ρ ρ' : Lb → Option Rw} (h : Mm w0 w B ρ) (hw : ∀ l, ρ' l = ρ l ∨ ρ' l = none ∨ ∃ e k, ρ' l = some ⟨.slice none 0 0, e, k, 0, []⟩) : Mm w0 w B ρ' := by
  have key : ∀ l r g, ρ' l = some r → r.v.ownBlock = some g → ρ l = some r := fun l r g hl hg => by
    rcases hw l with e | e | ⟨e0, k, e⟩
    · rw [← e]; exact hl
    · rw [e] at hl; cases hl
    · rw [e] at hl; cases hl; cases hg
  refine ⟨⟨fun l r hl => ?_, fun l l' r r' g h1 h2 g1 g2 => h.mem.apart l l' r r' g (key l r g h1 g1) (key l' r' g h2 g2) g1 g2⟩, h.bel, h.le⟩
  rcases hw l with e | e | ⟨e0, k, e⟩
  · rw [e] at hl; exact h.mem.own l r hl
  · rw [e] at hl; cases hl
  · rw [e] at hl; cases hl; exact World.ownsRow_nil _ _ _ _

/-- The rows that index has made and turned. -/
def st1 (ρ : Lb → Option Rw) (C cb hb hl qb nb sb P S : Nat) (A : Nat → Value) (hv : Nat → Value) (rr : Nat → List Rn) (hs : Nat → Int) (byf : Value) (bs : List Hs) (vs : Nat → Value) (secs : Nat → List Sc) (pr : Nat → Bool) (vb : Nat → Value) (rows : Nat → List Rn) : Lb → Option Rw := fun l =>
  if l.1 = 0 then if l.2 < P then some ⟨hv l.2, 29, 4, (rr l.2).length, fl Rn.enc (rr l.2)⟩ else none
  else if l.1 = 7 then if l.2 < P then some ⟨vs l.2, 56, 2, (secs l.2).length, fl Sc.enc (secs l.2)⟩ else none
  else if l.1 = 10 then if l.2 < S then some ⟨vb l.2, 29, 4, (rows l.2).length, fl Rn.enc (rows l.2)⟩ else none
  else if l.1 = 11 then none
  else if l = (4, 0) then some (bk C 43 10 1 1 (cat5 A byf))
  else if l = (4, 1) then some (bk cb 31 1 1 1 [.pointer (some ⟨C, 0, none⟩)])
  else if l.1 = 4 then none
  else if l.1 = 20 then none
  else if l = (1, 0) then some (bk hb 30 1 P P (vals P hv))
  else if l = (5, 0) then some (bk hl 2 1 P P (ints ((List.range P).map hs)))
  else if l = (6, 0) then some (bk qb 54 1 P P (vals P vs))
  else if l = (8, 0) then some (bk nb 9 1 S S (strs S pr))
  else if l = (9, 0) then some (bk sb 30 1 S S (vals S vb))
  else if l = (12, 0) then some ⟨byf, 35, 3, bs.length, fl Hs.enc bs⟩
  else ρ l

/-- Peer q is done. -/
structure Pd (rr : Nat → List Rn) (hs : Nat → Int) (acs : Nat → List Sp) (vs : Nat → Value) (secs : Nat → List Sc) (q : Nat) : Prop where
  asc : Asc1 (rr q)
  mi : MergeInv (rsp (rr q)) (acs q)
  sm : Small (acs q)
  held : hs q = tot (acs q)
  sec : Secs (fun j => hasId j (rr q)) (fun _ => false) (fun k => sel k (rr q)) (secs q)
  ord : AscR (secs q)
  nil : secs q = [] → vs q = .slice none 0 0
/-- Behind p peers. -/
structure Inv1 (P p : Nat) (runs rr : Nat → List Rn) (hs : Nat → Int) (acs : Nat → List Sp) (bs : List Hs) (vs : Nat → Value) (secs : Nat → List Sc) (pr : Nat → Bool) (rows : Nat → List Rn) : Prop where
  perm : ∀ q, (rr q).Perm (runs q)
  done : ∀ q, q < p → Pd rr hs acs vs secs q
  todo : ∀ q, p ≤ q → hs q = 0 ∧ vs q = .slice none 0 0 ∧ secs q = []
  bs : bs = (List.range p).flatMap fun q => hsp q (acs q)
  pr : ∀ j, pr j = (List.range p).any fun q => hasId j (rr q)
  rows : ∀ k, rows k = (List.range p).flatMap fun q => sel k (rr q)

theorem flat_len {α β : Type} (f : Nat → List α) (g : Nat → List β) (h : ∀ q, (f q).length ≤ (g q).length) (p P : Nat) (hp : p ≤ P) : ((List.range p).flatMap f).length ≤ ((List.range P).flatMap g).length := by
  induction P with
  | zero => have : p = 0 := by omega
            subst this; simp
  | succ P ih =>
    rw [List.range_succ, List.flatMap_append, List.length_append]
    by_cases e : p = P + 1
    · subst e
      rw [List.range_succ, List.flatMap_append, List.length_append]
      have h1 : ((List.range P).flatMap f).length ≤ ((List.range P).flatMap g).length := by
        clear ih hp
        induction P with
        | zero => simp
        | succ P ih2 =>
          rw [List.range_succ, List.flatMap_append, List.length_append, List.flatMap_append, List.length_append]
          have := h P
          simp only [List.flatMap_cons, List.flatMap_nil, List.append_nil]
          omega
      have := h P
      simp only [List.flatMap_cons, List.flatMap_nil, List.append_nil]
      omega
    · have := ih (by omega)
      omega
theorem Inv1.rows_len {P p : Nat} {runs rr : Nat → List Rn} {hs : Nat → Int} {acs : Nat → List Sp} {bs : List Hs} {vs : Nat → Value} {secs : Nat → List Sc} {pr : Nat → Bool} {rows : Nat → List Rn} (h : Inv1 P p runs rr hs acs bs vs secs pr rows) (hp : p ≤ P) (hT : ((List.range P).flatMap runs).length ≤ 4096) (k : Nat) : (rows k).length ≤ 4096 := by
  rw [h.rows k]
  refine Nat.le_trans (flat_len _ runs (fun q => ?_) p P hp) hT
  rw [← (h.perm q).length_eq]; exact sel_len _ _
theorem run_len0 (runs : Nat → List Rn) (q : Nat) : ∀ P, q < P → (runs q).length ≤ ((List.range P).flatMap runs).length
  | 0, h => by omega
  | P + 1, h => by
    rw [List.range_succ, List.flatMap_append, List.length_append]
    by_cases e : q = P
    · subst e; simp
    · have := run_len0 runs q P (by omega)
      omega
theorem run_len {P : Nat} {runs : Nat → List Rn} (hT : ((List.range P).flatMap runs).length ≤ 4096) (q : Nat) (hq : q < P) : (runs q).length ≤ 4096 := Nat.le_trans (run_len0 runs q P hq) hT
theorem Inv1.bs_len {P p : Nat} {runs rr : Nat → List Rn} {hs : Nat → Int} {acs : Nat → List Sp} {bs : List Hs} {vs : Nat → Value} {secs : Nat → List Sc} {pr : Nat → Bool} {rows : Nat → List Rn} (h : Inv1 P p runs rr hs acs bs vs secs pr rows) : bs.length ≤ p * 4096 := by
  rw [h.bs]
  have : ∀ n, n ≤ p → ((List.range n).flatMap fun q => hsp q (acs q)).length ≤ n * 4096 := by
    intro n
    induction n with
    | zero => intro _; simp
    | succ n ih =>
      intro hn
      rw [List.range_succ, List.flatMap_append, List.length_append]
      have h1 := ih (by omega)
      have h2 := (h.done n (by omega)).sm.1
      have h3 : (hsp n (acs n)).length = (acs n).length := by simp [hsp]
      simp only [List.flatMap_cons, List.flatMap_nil, List.append_nil]
      omega
  exact this p (Nat.le_refl _)
theorem asc_sel {d : List Rn} (h : Asc1 d) (k : Nat) : Asc1 (sel k d) := by
  have hp : d.Pairwise (fun a b => a.first ≤ b.first) := by
    rw [List.pairwise_iff_getElem]
    intro i j hi hj hij
    have := h i j hij hj
    rw [List.getD_eq_getElem?_getD, List.getD_eq_getElem?_getD, List.getElem?_eq_getElem hi, List.getElem?_eq_getElem hj] at this
    exact this
  have hq : (sel k d).Pairwise (fun a b => a.first ≤ b.first) := hp.filter _
  intro i j hij hj
  have := List.pairwise_iff_getElem.1 hq i j (by omega) hj hij
  rw [List.getD_eq_getElem?_getD, List.getD_eq_getElem?_getD, List.getElem?_eq_getElem (by omega), List.getElem?_eq_getElem hj]
  exact this
theorem fine_sel {S : Nat} {d : List Rn} (h : Fine S d) (k : Nat) : Fine S (sel k d) := fun r hr => h r (List.mem_filter.1 hr).1
theorem Secs.perm {pr lf : Nat → Bool} {mrows : Nat → List Rn} {l l' : List Sc} (h : Secs pr lf mrows l) (p : l'.Perm l) : Secs pr lf mrows l' :=
  ⟨(p.map _).nodup_iff.2 h.nd, fun j hj => by rw [(p.map _).mem_iff]; exact h.mem j hj, fun c hc => h.low c (p.mem_iff.1 hc), fun c hc => h.it c (p.mem_iff.1 hc)⟩

end Go.Proofs.Ybulkebla
