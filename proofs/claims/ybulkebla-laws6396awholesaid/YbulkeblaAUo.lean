import Derived.Test.YbulkeblaAMo
import Derived.Test.YbulkeblaAUniq
/-! zzs6396aunion (13) at own rows. -/
namespace Go.Proofs.Ybulkebla
open Go.RowKit Go.Lib
set_option linter.unusedVariables false
set_option linter.unusedSectionVars false
variable [Inhabited Rn] [Inhabited Hs] [Inhabited Sc]

/-- The spans of the runs d, whichever way they are found. -/
def SameSp (d : List Rn) (acc : List Sp) : Prop := ∀ d' acc', d'.Perm d → MergeInv (rsp d') acc' → acc' = acc
def marks : List Value := List.replicate 65600 (.bool false)

theorem mk_own {w : World} {B mb : Nat} (h : w.ownsRow B 4 1 (.slice (some ⟨mb, 0, none⟩) 65600 65600) 65600 marks) : MK w mb (fun _ => false) := by
  intro t ht
  refine ⟨?_, h.frozenAt t, ?_⟩
  · rw [h.cellAt t (by omega)]; unfold marks; rw [List.getElem?_replicate, if_pos ht]
  · rcases h.2 with ⟨e, _⟩ | ⟨g, cap, cur, e, _, h1, _, _, h2, _⟩
    · cases e
    · cases e; exact ⟨cur, h1, by simpa using h2⟩
theorem own_mk {w : World} {B mb : Nat} (hB : B ≤ mb) (h : MK w mb (fun _ => false)) : w.ownsRow B 4 1 (.slice (some ⟨mb, 0, none⟩) 65600 65600) 65600 marks := by
  obtain ⟨cur, h1, h2⟩ := (h 0 (by omega)).2.2
  refine ⟨by unfold marks; rw [List.length_replicate], .inr ⟨mb, 65600, cur, rfl, hB, h1, Nat.le_refl _, by unfold maxLen; omega, by omega, ?_⟩⟩
  apply List.ext_getElem?
  intro t
  unfold marks
  by_cases ht : t < 65600
  · rw [List.getElem?_take_of_lt (by omega), List.getElem?_replicate, if_pos ht]
    have := (h t ht).1
    unfold World.cell? at this
    rw [h1] at this
    simpa using this
  · rw [List.getElem?_eq_none (by rw [List.length_take]; omega), List.getElem?_replicate, if_neg ht]

theorem sameSp_nil : SameSp [] [] := fun d' acc' p h => by
  have : d' = [] := List.Perm.eq_nil p
  subst this
  cases acc' with
  | nil => rfl
  | cons s l =>
    obtain ⟨r, hr, _⟩ := h.top s List.mem_cons_self
    cases hr

theorem unionOwn (B S mb : Nat) (v : Value) (d : List Rn) (w : World) (hsz : d.length ≤ 4096) (h : w.ownsRow B 29 4 v d.length (fl Rn.enc d)) (hm : w.ownsRow B 4 1 (.slice (some ⟨mb, 0, none⟩) 65600 65600) 65600 marks) (hne : v.ownBlock ≠ some mb) (hF : Fine S d) :
    Calls Yba.prog 13 #[v, .slice (some ⟨mb, 0, none⟩) 65600 65600] w fun e w' => ∃ a' c' acc, e = .returned (.tuple #[.slice a' acc.length c', .int .i64 (tot acc)]) ∧ w'.ownsRow w.heap.size 33 2 (.slice a' acc.length c') acc.length (spc acc) ∧
      w'.ownsRow B 4 1 (.slice (some ⟨mb, 0, none⟩) 65600 65600) 65600 marks ∧ w.grownBy w' (some mb) ∧ SameSp d acc ∧ (acc = [] → Value.slice a' acc.length c' = .slice none 0 0) := by
  obtain ⟨a, c, rfl, hr⟩ := rrow_own h (Nat.le_refl _)
  rcases Nat.eq_zero_or_pos d.length with hz | hz
  · have hd : d = [] := List.length_eq_zero_iff.1 hz
    subst hd
    refine (unionEmpty a c _ w).mono ?_
    rintro e w' ⟨rfl, rfl⟩
    exact ⟨none, 0, [], rfl, World.ownsRow_nil _ _ _ _, hm, gb_refl _ _, sameSp_nil, fun _ => rfl⟩
  · have hmem : ∀ k, k < d.length → d.getD k default ∈ d := fun k hk => by
      rw [List.getD_eq_getElem?_getD, List.getElem?_eq_getElem hk]; exact List.getElem_mem _
    refine (union w.heap.size d.length c mb a _ _ _ _ w (by omega) (Nat.le_refl _) hr (fun x hx e => hne (by rw [hx, ← e]; rfl)) (mk_own hm) (fun k hk => ⟨(hF _ (hmem k hk)).2.1, (hF _ (hmem k hk)).2.2.1⟩) (fun k hk => ⟨(hF _ (hmem k hk)).2.2.2.1, (hF _ (hmem k hk)).2.2.2.2⟩) hz).mono ?_
    rintro e w' ⟨v', acc, lo, hi, rfl, h1, h2, h3, h4, h5, h6⟩
    obtain ⟨a', c', rfl⟩ := own_form h1
    refine ⟨a', c', acc, rfl, h1, own_mk (hm.lt mb rfl).1 h3, h2, fun d' acc' p hmi => ?_, h6⟩
    have he : (fun x => ∃ k, k < d.length ∧ (d.getD k default).first ≤ x ∧ x ≤ (d.getD k default).first + (d.getD k default).count - 1) = fun x => ∃ r ∈ d, r.first ≤ x ∧ x ≤ r.first + r.count - 1 := by
      funext x
      apply propext
      constructor
      · rintro ⟨k, hk, hx⟩; exact ⟨_, hmem k hk, hx⟩
      · rintro ⟨r, hr2, hx⟩
        obtain ⟨k, hk, rfl⟩ := List.mem_iff_getElem.1 hr2
        exact ⟨k, hk, by rw [List.getD_eq_getElem?_getD, List.getElem?_eq_getElem hk]; exact hx⟩
    rw [he] at h4
    refine spans_same p hmi h4 (fun r hr2 => ?_)
    obtain ⟨k, hk, rfl⟩ := List.mem_iff_getElem.1 hr2
    have := h5 k hk
    rw [List.getD_eq_getElem?_getD, List.getElem?_eq_getElem hk] at this
    exact this

end Go.Proofs.Ybulkebla
