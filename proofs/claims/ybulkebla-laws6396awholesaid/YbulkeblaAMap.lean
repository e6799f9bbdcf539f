import Derived.Test.YbulkeblaAMm
import Derived.Maps.RangeWalk
import Derived.Maps.OwnOps
import Derived.Maps.Views
import Derived.WalkKit
/-! The map of a peer's runs by section: its elements are slice values. -/
namespace Go.Proofs.Ybulkebla
open Go.RowKit Go.Lib Go.Maps
set_option linter.unusedVariables false

/-- A slice value reads as itself. -/
def Rd (v : Value) : Option (DataW Value × List MemPlace) := some (.held v, [])
theorem law3 : Keyed Yba.prog 3 := int_keyed Yba.underlying3
theorem zero30 (w : World) : (zeroValue 30).run Yba.prog w = .ok (.slice none 0 0) w := by kernel_rfl
theorem key3 (k : Nat) (hk : k ≤ 1000) : keyOf Yba.prog 3 (.int .i64 k) = some (.int .i64 k) := keyOf_int_mk Yba.underlying3 (WalkArith.wf_i64 (by omega))
theorem keyl (k : Nat) (hk : k ≤ 1000) : WideAt.IsKeyLit (.int .i64 k) := law3.key (key3 k hk)
theorem lit_inj {a b : Nat} (h : (Lit.int .i64 (a : Int)) = .int .i64 (b : Int)) : a = b := by
  injection h with _ h; omega

/-- Block mb is a map: at section k the slice vm k, nil if pr says that it isn't there. -/
def Mp (w : World) (mb n : Nat) (D : DataW Value) (vm : Nat → Value) (pr : Nat → Bool) : Prop :=
  w.ownsMap Yba.prog 3 Rd mb n D ∧ (∀ k : Nat, k ≤ 1000 → D.atKey (.int .i64 k) (.held (.slice none 0 0)) = .held (vm k)) ∧ (∀ kl, Maps.has D kl = true → ∃ k : Nat, k ≤ 1000 ∧ kl = .int .i64 k) ∧ (∀ k : Nat, k ≤ 1000 → Maps.has D (.int .i64 k) = pr k)

section
variable {w w' : World} {mb n : Nat} {D : DataW Value} {vm : Nat → Value} {pr : Nat → Bool}
theorem Mp.made (w : World) : Mp (w.alloc (.map #[] 0)) w.heap.size 0 (.map []) (fun _ => .slice none 0 0) (fun _ => false) :=
  ⟨World.ownsMap_made w _ _ _, fun k hk => rfl, fun kl h => by simp [Maps.has] at h, fun k hk => rfl⟩
theorem Mp.kept (h : Mp w mb n D vm pr) {row : Option Nat} (hg : w.grownBy w' row) (hne : some mb ≠ row) : Mp w' mb n D vm pr := ⟨h.1.kept hg hne, h.2⟩
theorem Mp.kept0 (h : Mp w mb n D vm pr) (hg : w.grownBy w' none) : Mp w' mb n D vm pr := h.kept hg (by simp)
theorem Mp.look (h : Mp w mb n D vm pr) (k : Nat) (hk : k ≤ 1000) : (Instr.lookup 143 (.map (some mb)) (.int .i64 k) false).run Yba.prog w = .ok (vm k) w := by
  obtain ⟨v, ps, h1, h2⟩ := h.1.lookup (t := 143) (e := 30) law3 Yba.underlying143 (zero30 w) (zd := .held (.slice none 0 0)) (zp := []) rfl (key3 k hk)
  rw [h.2.1 k hk] at h2
  simp only [Rd, Option.some.injEq, Prod.mk.injEq, DataW.held.injEq] at h2
  rw [← h2.1]; exact h1
theorem Mp.put (h : Mp w mb n D vm pr) (k : Nat) (hk : k ≤ 1000) (v : Value) (ho : w'.ownsMap Yba.prog 3 Rd mb (n + 1) (D.put (.int .i64 k) (.held v))) : Mp w' mb (n + 1) (D.put (.int .i64 k) (.held v)) (fun j => if j = k then v else vm j) (fun j => pr j || decide (j = k)) := by
  have hI : IsMap D := by
    obtain ⟨es, clock, _, _, _, rfl⟩ := h.1
    exact ⟨_, rfl⟩
  refine ⟨ho, fun j hj => ?_, fun kl hl => ?_, fun j hj => ?_⟩
  · by_cases e : j = k
    · subst e; simp only [if_true]; exact atKey_put_same hI (keyl j hj) _ _
    · simp only [if_neg e]
      rw [atKey_put_other (fun e2 => e (lit_inj e2))]; exact h.2.1 j hj
  · by_cases e : kl = .int .i64 k
    · exact ⟨k, hk, e⟩
    · rw [has_put_other e] at hl; exact h.2.2.1 kl hl
  · by_cases e : j = k
    · subst e; rw [has_put_same hI (keyl j hj)]; simp
    · rw [has_put_other (fun e2 => e (lit_inj e2)), h.2.2.2 j hj]; simp [e]
/-- The map under a range: lf k: is section k still to come? -/
def Rg (w : World) (mb rb n : Nat) (D : DataW Value) (vm : Nat → Value) (pr : Nat → Bool) (lf : Nat → Bool) (cnt : Nat) : Prop :=
  ∃ left : Lit → Bool, w.ranges Yba.prog 3 Rd mb rb n D left cnt ∧ Mp w mb n D vm pr ∧ (∀ kl, left kl = true → Maps.has D kl = true) ∧ (∀ k : Nat, k ≤ 1000 → left (.int .i64 k) = lf k)

variable {rb cnt : Nat} {lf : Nat → Bool}
theorem Rg.kept (h : Rg w mb rb n D vm pr lf cnt) {row : Option Nat} (hg : w.grownBy w' row) (hne : some mb ≠ row) (hne2 : some rb ≠ row) : Rg w' mb rb n D vm pr lf cnt := by
  obtain ⟨left, h1, h2, h3⟩ := h
  exact ⟨left, h1.kept hg hne hne2, h2.kept hg hne, h3⟩
theorem Rg.kept0 (h : Rg w mb rb n D vm pr lf cnt) (hg : w.grownBy w' none) : Rg w' mb rb n D vm pr lf cnt := h.kept hg (by simp) (by simp)
theorem Rg.left_eq (h : Rg w mb rb n D vm pr lf cnt) : w.rangeLeft mb rb = cnt := by
  obtain ⟨left, h1, _⟩ := h
  exact h1.left_eq
theorem Mp.range {w' : World} (h : Mp w mb n D vm pr) (h1 : w'.ranges Yba.prog 3 Rd mb rb n D (Maps.has D) (Maps.size D)) (hg : w.grownBy w' none) : Rg w' mb rb n D vm pr pr (Maps.size D) :=
  ⟨Maps.has D, h1, h.kept0 hg, fun _ h => h, fun k hk => h.2.2.2 k hk⟩
theorem same_nat (j k : Nat) (hk : k ≤ 1000) : (Lit.int .i64 (j : Int)).sameKey (.int .i64 (k : Int)) = decide (j = k) := by
  by_cases e : j = k
  · subst e; rw [WideAt.sameKey_self (keyl j hk)]; simp
  · rw [sameKey_ne (fun e2 => e (lit_inj e2))]; simp [e]

theorem wpList_next_mp {ops : Array Oper} {rest : List Oper} {o : Oper} {a : Act} {Q : Exit → Act → World → Prop} (hg : o.guard = none) (it : Operand) (hop : o.op = Op.next it false)
    (hit : a.eval it = .pointer (some ⟨rb, 0, none⟩)) (h : Rg w mb rb n D vm pr lf cnt)
    (hDone : (∀ k, k ≤ 1000 → lf k = false) → wpList Yba.prog ops Q rest (a.put o.dst (.tuple #[.bool false])) w)
    (hMore : ∀ (k : Nat) (w' : World) (cnt' : Nat), k ≤ 1000 → pr k = true → lf k = true → Rg w' mb rb n D vm pr (fun z => lf z && !decide (z = k)) cnt' → cnt' < cnt →
      w.grownBy w' (some rb) → w'.heap.size = w.heap.size → (Instr.entry (.pointer (some ⟨rb, 0, none⟩))).run Yba.prog w' = .ok (.tuple #[.int .i64 k, vm k]) w' → wpList Yba.prog ops Q rest (a.put o.dst (.tuple #[.bool true, .int .i64 k, vm k])) w') :
    wpList Yba.prog ops Q (o :: rest) a w := by
  obtain ⟨left, h1, h2, h3, h4⟩ := h
  refine wpList_next_ranges w hg it hop 3 law3 Rd (Value.int .i64) (fun v : Value => v) (fun key kl hkey => by obtain ⟨x, rfl, _⟩ := Maps.keyOf_int_inv Yba.underlying3 hkey; exact ⟨x, rfl⟩) (fun v y hv => ⟨v, rfl⟩) mb rb n D left cnt hit h1 (fun _ hl => hDone (fun k hk => by rw [← h4 k hk]; exact hl _)) ?_
  intro x c kl y w' cnt' hkey hlk hv hat hrg hlt hgr hsz hen
  obtain ⟨x', ex, rfl, hwx⟩ := Maps.keyOf_int_inv Yba.underlying3 hkey
  cases ex
  obtain ⟨k, hk, e⟩ := h2.2.2.1 _ (h3 _ hlk)
  injection e with _ e
  subst e
  have hc : c = vm k := by
    have e1 := hat (.held (.slice none 0 0))
    rw [h2.2.1 k hk] at e1
    simp only [Rd, Option.some.injEq] at hv
    rw [← hv] at e1
    simp only [DataW.held.injEq] at e1
    exact e1.symm
  subst hc
  refine hMore k w' cnt' hk ?_ ?_ ⟨_, hrg, h2.kept hgr (by simp only [ne_eq, Option.some.injEq]; exact fun e => h1.ne e.symm), fun z hz => h3 z (by simp only [Bool.and_eq_true] at hz; exact hz.1), fun j hj => by rw [h4 j hj, same_nat j k hk]⟩ hlt hgr hsz hen
  · rw [← h2.2.2.2 k hk]; exact h3 _ hlk
  · rw [← h4 k hk]; exact hlk
end

end Go.Proofs.Ybulkebla
