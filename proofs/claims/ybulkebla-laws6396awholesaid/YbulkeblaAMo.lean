import Derived.Test.YbulkeblaASo
import Derived.Test.YbulkeblaAL5
/-! merge (31) at an own row. -/
namespace Go.Proofs.Ybulkebla
open Go.RowKit Go.Lib
set_option linter.unusedVariables false
set_option linter.unusedSectionVars false
variable [Inhabited Rn] [Inhabited Hs] [Inhabited Sc]

def rsp (d : List Rn) : List (Int × Int) := d.map fun r => (r.first, r.first + r.count - 1)
/-- The runs that the law builds. -/
def Fine (S : Nat) (d : List Rn) : Prop := ∀ r ∈ d, (∃ k : Nat, k < S ∧ r.id = k) ∧ -32768 ≤ r.first ∧ r.first ≤ 32767 ∧ 1 ≤ r.count ∧ r.count ≤ 16

theorem own_form {w : World} {B : Nat} {e : TypeId} {k : Nat} {v : Value} {n : Nat} {xs : List Value} (h : w.ownsRow B e k v n xs) : ∃ a c, v = .slice a n c := by
  rcases Joins.ownsRow_forms h with ⟨rfl, h0⟩ | ⟨g, cap, rfl⟩
  · exact ⟨none, 0, by rw [h0]⟩
  · exact ⟨_, _, rfl⟩
theorem range_map (d : List Rn) : ((List.range d.length).map fun k => ((d.getD k default).first, (d.getD k default).first + (d.getD k default).count - 1)) = rsp d := by
  apply List.ext_getElem?
  intro t
  by_cases h : t < d.length
  · simp [rsp, h, List.getD_eq_getElem?_getD]
  · simp [rsp, h]
theorem rrow_own {B : Nat} {v : Value} {d : List Rn} {w : World} {B' : Nat} (h : w.ownsRow B 29 4 v d.length (fl Rn.enc d)) (hB : w.heap.size ≤ B') :
    ∃ a c, v = .slice a d.length c ∧ RRow B' w a d.length (fun k => nm (d.getD k default).id) (fun k => (d.getD k default).id) (fun k => (d.getD k default).first) (fun k => (d.getD k default).count) := by
  have hlen : ∀ x : Rn, (Rn.enc x).length = 4 := fun _ => rfl
  rcases Joins.ownsRow_forms h with ⟨rfl, h0⟩ | ⟨g, cap, rfl⟩
  · exact ⟨none, 0, by rw [h0], .inl h0⟩
  · refine ⟨some ⟨g, 0, none⟩, cap, rfl, .inr ⟨g, 0, rfl, by have := (h.lt g rfl).2; omega, fun k hk => ?_⟩⟩
    have c0 := fl_at Rn.enc 4 hlen d k 0 hk (by omega)
    have c1 := fl_at Rn.enc 4 hlen d k 1 hk (by omega)
    have c2 := fl_at Rn.enc 4 hlen d k 2 hk (by omega)
    have c3 := fl_at Rn.enc 4 hlen d k 3 hk (by omega)
    rw [Nat.add_zero] at c0
    simp only [Nat.zero_add]
    rw [h.cellAt _ (by omega), h.cellAt _ (by omega), h.cellAt _ (by omega), h.cellAt _ (by omega), c0, c1, c2, c3]
    exact ⟨rfl, rfl, rfl, rfl⟩

theorem mergeOwn (B S : Nat) (v : Value) (d : List Rn) (w : World) (hsz : d.length ≤ 4096) (h : w.ownsRow B 29 4 v d.length (fl Rn.enc d)) (hF : Fine S d) (hs : Asc1 d) :
    Calls Yba.prog 31 #[v] w fun e w' => ∃ v' acc, e = .returned v' ∧ w'.ownsRow w.heap.size 33 2 v' acc.length (spc acc) ∧ Below w.heap.size w w' ∧ MergeInv (rsp d) acc ∧ Small acc ∧ (acc = [] → v' = .slice none 0 0) := by
  obtain ⟨a, c, rfl, hr⟩ := rrow_own h (Nat.le_refl _)
  have hmem : ∀ k, k < d.length → d.getD k default ∈ d := fun k hk => by
    rw [List.getD_eq_getElem?_getD, List.getElem?_eq_getElem hk]; exact List.getElem_mem _
  refine (merge w.heap.size d.length c a _ _ _ _ w hsz (Nat.le_refl _) hr (fun k hk => ⟨(hF _ (hmem k hk)).2.1, (hF _ (hmem k hk)).2.2.1⟩) (fun k hk => ⟨(hF _ (hmem k hk)).2.2.2.1, (hF _ (hmem k hk)).2.2.2.2⟩) hs).mono ?_
  rintro e w' ⟨v', acc, rfl, h1, h2, h3, h4, h5⟩
  rw [range_map] at h3
  refine ⟨v', acc, rfl, h1, h2, h3, ⟨Nat.le_trans h5 hsz, fun s hs => ?_⟩, h4⟩
  have hn := h3.nf.2 s hs
  have q : ∀ x, cov acc x → -40000 ≤ x ∧ x ≤ 40000 := fun x hx => by
    obtain ⟨r, hr, h6⟩ := (h3.cv x).1 hx
    obtain ⟨r2, hr2, rfl⟩ := List.mem_map.1 hr
    have := hF r2 hr2
    simp only at h6
    omega
  have q1 := q s.first ⟨s, hs, by omega, hn⟩
  have q2 := q s.last ⟨s, hs, hn, by omega⟩
  omega

end Go.Proofs.Ybulkebla
