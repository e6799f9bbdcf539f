import Derived.Test.YbulkeblaAL1
import Derived.Test.YbulkeblaAL6
import Derived.Test.YbulkeblaAL7
import Derived.Test.YbulkeblaAMake
/-! index (7). -/
namespace Go.Proofs.Ybulkebla
open Go.RowKit Go.Lib
set_option linter.unusedVariables false
set_option linter.unusedSectionVars false
variable [Inhabited Rn] [Inhabited Hs] [Inhabited Sc]
set_option linter.unusedSimpArgs false

def catl (f : Nat → Value) : List Value := [f 0, f 1, f 2, f 3, f 4, f 5, f 6, f 7, f 8, f 9]
theorem catl_set (f : Nat → Value) (i : Nat) (u : Value) (hi : i < 10) : (catl f).set i u = catl (fun j => if j = i then u else f j) := by
  rcases i with _ | _ | _ | _ | _ | _ | _ | _ | _ | _ | i
  all_goals first | rfl | (simp [catl]; done) | omega

theorem st1_start (ρ ρ6 : Lb → Option Rw) (C cb hb hl qb nb sb P S : Nat) (A : Nat → Value) (hv : Nat → Value) (runs : Nat → List Rn) (a0 : ρ6 (4, 0) = some (bk C 43 10 1 1 (cat5 A (.slice none 0 0)))) (a1 : ρ6 (4, 1) = some (bk cb 31 1 1 1 [.pointer (some ⟨C, 0, none⟩)]))
    (a5 : ρ6 (5, 0) = some (bk hl 2 1 P P (List.replicate P (.int .i64 0)))) (a6 : ρ6 (6, 0) = some (bk qb 54 1 P P (List.replicate P (.slice none 0 0)))) (a8 : ρ6 (8, 0) = some (bk nb 9 1 S S (List.replicate S (.string ⟨#[]⟩)))) (a9 : ρ6 (9, 0) = some (bk sb 30 1 S S (List.replicate S (.slice none 0 0))))
    (ho : ∀ l, l ≠ (4, 0) → l ≠ (4, 1) → l ≠ (5, 0) → l ≠ (6, 0) → l ≠ (8, 0) → l ≠ (9, 0) → ρ6 l = ρ l) (h1 : ρ (1, 0) = some (bk hb 30 1 P P (vals P hv))) (hr : ∀ q, q < P → ρ (0, q) = some ⟨hv q, 29, 4, (runs q).length, fl Rn.enc (runs q)⟩) (l : Lb) :
    (st1 ρ C cb hb hl qb nb sb P S A hv runs (fun _ => 0) (.slice none 0 0) [] (fun _ => .slice none 0 0) (fun _ => []) (fun _ => false) (fun _ => .slice none 0 0) (fun _ => [])) l = ρ6 l ∨
    (st1 ρ C cb hb hl qb nb sb P S A hv runs (fun _ => 0) (.slice none 0 0) [] (fun _ => .slice none 0 0) (fun _ => []) (fun _ => false) (fun _ => .slice none 0 0) (fun _ => [])) l = none ∨
    ∃ e k, (st1 ρ C cb hb hl qb nb sb P S A hv runs (fun _ => 0) (.slice none 0 0) [] (fun _ => .slice none 0 0) (fun _ => []) (fun _ => false) (fun _ => .slice none 0 0) (fun _ => [])) l = some ⟨.slice none 0 0, e, k, 0, []⟩ := by
  obtain ⟨a, b⟩ := l
  by_cases e0 : a = 0
  · subst e0
    by_cases hb0 : b < P
    · left; rw [ho _ (by simp) (by simp) (by simp) (by simp) (by simp) (by simp), hr b hb0]; simp [st1, hb0]
    · right; left; simp [st1, hb0]
  by_cases e7 : a = 7
  · subst e7
    by_cases hb0 : b < P
    · right; right; exact ⟨56, 2, by simp [st1, hb0, fl]⟩
    · right; left; simp [st1, hb0]
  by_cases e10 : a = 10
  · subst e10
    by_cases hb0 : b < S
    · right; right; exact ⟨29, 4, by simp [st1, hb0, fl]⟩
    · right; left; simp [st1, hb0]
  by_cases e11 : a = 11
  · subst e11; right; left; simp [st1]
  by_cases e20 : a = 20
  · subst e20; right; left; simp [st1]
  by_cases e4 : a = 4
  · subst e4
    by_cases hb0 : b = 0
    · subst hb0; left; rw [a0]; simp [st1]
    by_cases hb1 : b = 1
    · subst hb1; left; rw [a1]; simp [st1]
    · right; left; simp [st1, hb0, hb1]
  by_cases e1 : a = 1 ∧ b = 0
  · obtain ⟨rfl, rfl⟩ := e1; left; rw [ho _ (by simp) (by simp) (by simp) (by simp) (by simp) (by simp), h1]; simp [st1]
  by_cases e5 : a = 5 ∧ b = 0
  · obtain ⟨rfl, rfl⟩ := e5; left; rw [a5]; simp [st1, ints, List.map_const']
  by_cases e6 : a = 6 ∧ b = 0
  · obtain ⟨rfl, rfl⟩ := e6; left; rw [a6]; simp [st1, vals, List.map_const']
  by_cases e8 : a = 8 ∧ b = 0
  · obtain ⟨rfl, rfl⟩ := e8; left; rw [a8]; simp [st1, strs, List.map_const']
  by_cases e9 : a = 9 ∧ b = 0
  · obtain ⟨rfl, rfl⟩ := e9; left; rw [a9]; simp [st1, vals, List.map_const']
  by_cases e12 : a = 12 ∧ b = 0
  · obtain ⟨rfl, rfl⟩ := e12; right; right; exact ⟨35, 3, by simp [st1, fl]⟩
  left
  rw [ho _ (by simp [e4]) (by simp [e4]) (by simp; exact fun h1 h2 => e5 ⟨h1, h2⟩) (by simp; exact fun h1 h2 => e6 ⟨h1, h2⟩) (by simp; exact fun h1 h2 => e8 ⟨h1, h2⟩) (by simp; exact fun h1 h2 => e9 ⟨h1, h2⟩)]
  simp [st1, e0, e1, e4, e5, e6, e7, e8, e9, e10, e11, e12, e20]

/-- Where index has laid what. -/
structure Ixd (ρ ρ' : Lb → Option Rw) (C hb P S : Nat) (f hv : Nat → Value) (rr : Nat → List Rn) (hs : Nat → Int) (byf : Value) (bs' : List Hs) (vs : Nat → Value) (secs : Nat → List Sc) (pr : Nat → Bool) (vi : Nat → Value) (acs6 : Nat → List Sp) (hl qb nb ib eb : Nat) : Prop where
  cat : ρ' (4, 0) = some (bk C 43 10 1 1 [f 0, f 1, f 2, f 3, .slice (some ⟨hl, 0, none⟩) P P, byf, .slice (some ⟨eb, 0, none⟩) bs'.length bs'.length, .slice (some ⟨qb, 0, none⟩) P P, .slice (some ⟨ib, 0, none⟩) S S, .slice (some ⟨nb, 0, none⟩) S S])
  hold : ∀ q, q < P → ρ' (0, q) = some ⟨hv q, 29, 4, (rr q).length, fl Rn.enc (rr q)⟩
  outer : ρ' (1, 0) = some (bk hb 30 1 P P (vals P hv))
  held : ρ' (5, 0) = some (bk hl 2 1 P P (ints ((List.range P).map hs)))
  secO : ρ' (6, 0) = some (bk qb 54 1 P P (vals P vs))
  sec : ∀ q, q < P → ρ' (7, q) = some ⟨vs q, 56, 2, (secs q).length, fl Sc.enc (secs q)⟩
  names : ρ' (8, 0) = some (bk nb 9 1 S S (strs S pr))
  byF : ρ' (12, 0) = some ⟨byf, 35, 3, bs'.length, fl Hs.enc bs'⟩
  itO : ρ' (13, 0) = some (bk ib 51 1 S S (vals S vi))
  it : ∀ k, k < S → ρ' (14, k) = some ⟨vi k, 33, 2, (acs6 k).length, spc (acs6 k)⟩
  reach : ρ' (15, 0) = some (bk eb 2 1 bs'.length bs'.length (rch bs' bs'.length))
  rest : ∀ l, l.1 = 2 ∨ l.1 = 3 → ρ' l = ρ l

def IxPost (w0 w' : World) (B : Nat) (ρ : Lb → Option Rw) (C hb P S : Nat) (f hv : Nat → Value) (runs : Nat → List Rn) : Prop :=
  ∃ (ρ' : Lb → Option Rw) (rr : Nat → List Rn) (hs : Nat → Int) (acs : Nat → List Sp) (byf : Value) (bs bs' : List Hs) (vs : Nat → Value) (secs : Nat → List Sc) (pr : Nat → Bool) (rows : Nat → List Rn) (vi : Nat → Value) (acs6 : Nat → List Sp) (hl qb nb ib eb : Nat),
      Mm w0 w' B ρ' ∧ Inv1 P P runs rr hs acs bs vs secs pr rows ∧ bs'.Perm bs ∧ AscF bs' ∧ (∀ k, k < S → Its rows vi acs6 k) ∧ Ixd ρ ρ' C hb P S f hv rr hs byf bs' vs secs pr vi acs6 hl qb nb ib eb

set_option maxHeartbeats 4000000 in
set_option maxRecDepth 100000 in
theorem index (w0 w : World) (B : Nat) (ρ : Lb → Option Rw) (C hb P S : Nat) (f : Nat → Value) (hv : Nat → Value) (runs : Nat → List Rn) (hM : Mm w0 w B ρ) (hP : P ≤ 6) (hS : S ≤ 6) (hF : ∀ q, Fine S (runs q)) (hT : ((List.range P).flatMap runs).length ≤ 4096)
    (h0 : ρ (4, 0) = some (bk C 43 10 1 1 (catl f))) (hf0 : f 0 = .slice (some ⟨hb, 0, none⟩) P P) (hf3 : f 3 = .int .i64 S) (h1 : ρ (1, 0) = some (bk hb 30 1 P P (vals P hv))) (hr : ∀ q, q < P → ρ (0, q) = some ⟨hv q, 29, 4, (runs q).length, fl Rn.enc (runs q)⟩) :
    Calls Yba.prog 7 #[.pointer (some ⟨C, 0, none⟩)] w fun e w' => e = .returned (.tuple #[]) ∧ IxPost w0 w' B ρ C hb P S f hv runs := by
  have HM : Hid (Mm w0 w B ρ) := hM
  have H0 : Hid (ρ (4, 0) = some (bk C 43 10 1 1 (catl f))) := h0
  have HF0 : Hid (f 0 = .slice (some ⟨hb, 0, none⟩) P P) := hf0
  have HF3' : Hid (f 3 = .int .i64 S) := hf3
  have H1 : Hid (ρ (1, 0) = some (bk hb 30 1 P P (vals P hv))) := h1
  have HR : Hid (∀ q, q < P → ρ (0, q) = some ⟨hv q, 29, 4, (runs q).length, fl Rn.enc (runs q)⟩) := hr
  have HF : Hid (∀ q, Fine S (runs q)) := hF
  have HT : Hid (((List.range P).flatMap runs).length ≤ 4096) := hT
  clear hM h0 hf0 hf3 h1 hr hF hT
  go_enter Yba.func7, Yba.ntmps7
  go_wp2_with fail
  obtain ⟨cb, HCB⟩ : ∃ cb, Hid (w.heap.size = cb) := ⟨_, rfl⟩
  rw [HCB.out]
  have M1 : Hid (Mm w0 (w.alloc (.cells #[.pointer (some ⟨C, 0, none⟩)] 31)) B (upd ρ (4, 1) (some (bk cb 31 1 1 1 [.pointer (some ⟨C, 0, none⟩)])))) := HM.out.box (4, 1) #[.pointer (some ⟨C, 0, none⟩)] 31 1 1 (by decide) rfl HCB.out
  generalize w.alloc (.cells #[.pointer (some ⟨C, 0, none⟩)] 31) = w1 at M1 ⊢
  obtain ⟨ρ1, HR1⟩ : ∃ ρ1, Hid (upd ρ (4, 1) (some (bk cb 31 1 1 1 [.pointer (some ⟨C, 0, none⟩)])) = ρ1) := ⟨_, rfl⟩
  rw [HR1.out] at M1
  obtain ⟨f1, HF1⟩ : ∃ f1 : Nat → Value, Hid (f = f1) := ⟨_, rfl⟩
  have K1 : Hid (ρ1 (4, 0) = some (bk C 43 10 1 1 (catl f1))) := by show _ = _; rw [← HR1.out, upd_other _ _ (by simp), ← HF1.out]; exact H0.out
  have C1 : Hid (ρ1 (4, 1) = some (bk cb 31 1 1 1 [.pointer (some ⟨C, 0, none⟩)])) := by show _ = _; rw [← HR1.out, upd_same]
  have RD1 : Hid (f1 0 = .slice (some ⟨hb, 0, none⟩) P P) := by show _ = _; rw [← HF1.out]; exact HF0.out
  have RS1 : Hid (f1 3 = .int .i64 S) := by show _ = _; rw [← HF1.out]; exact HF3'.out
  have HSS1 : Hid (∀ (w' : World) (ρ' : Lb → Option Rw), Mm w0 w' B ρ' → ρ' (4, 0) = ρ1 (4, 0) → ρ' (4, 1) = ρ1 (4, 1) → w'.cell? ⟨cb, 0, none⟩ = some (.pointer (some ⟨C, 0, none⟩)) ∧ w'.cell? ⟨C, 0, none⟩ = some (.slice (some ⟨hb, 0, none⟩) P P)) := fun w' ρ' h e0 e1 => ⟨h.cell (e1.trans C1.out) 0 rfl, h.cell (e0.trans K1.out) 0 (by rw [← RD1.out]; rfl)⟩
  have m38 := fun w => make38 w P (by omega)
  refine wp_region_late 6 7 (fun w' => w'.cell? ⟨cb, 0, none⟩ = some (.pointer (some ⟨C, 0, none⟩)) ∧ w'.cell? ⟨C, 0, none⟩ = some (.slice (some ⟨hb, 0, none⟩) P P)) (by kernel_rfl) (by kernel_rfl) (HSS1.out w1.drew ρ1 M1.out.drew rfl rfl) ?_
  simp only [List.take_succ_cons, List.take_zero, List.drop_succ_cons, List.drop_zero, Nat.reduceSub]
  repeat (refine wpHead_step (v := ?_) (by rfl) (by intro w hSw; go_simp; try with_reducible rfl) ?_; try simp only [Act.put, List.setIfInBounds_toArray, List.set_cons_zero, List.set_cons_succ])
  refine wpHead_nil ?_
  change wpList _ _ _ _ _ w1.drew
  go_wp2_with fail
  obtain ⟨hl, HB1⟩ : ∃ hl, Hid (w1.heap.size = hl) := ⟨_, rfl⟩
  rw [HB1.out]
  have M1a : Hid (Mm w0 (w1.alloc (.cells (Array.replicate P (.int .i64 0)) 2)).drew B (upd ρ1 (5, 0) (some (bk hl 2 1 P P (List.replicate P (.int .i64 0)))))) := by
    have h := (M1.out.box (5, 0) (Array.replicate P (.int .i64 0)) 2 1 P (by unfold maxLen; omega) (by simp) HB1.out).drew
    rw [Array.toList_replicate] at h
    exact h
  refine ⟨HSS1.out _ _ M1a.out (upd_other _ _ (by simp)) (upd_other _ _ (by simp)), ?_⟩
  change wpList _ _ _ _ _ _
  have K1' : Hid (upd ρ1 (5, 0) (some (bk hl 2 1 P P (List.replicate P (.int .i64 0)))) (4, 0) = some (bk C 43 10 1 1 (catl f1))) := (upd_other _ _ (by simp)).trans K1.out
  have z1 := M1a.out.cell K1'.out 4 (u := f1 4) rfl
  have z2 := M1a.out.froz K1'.out 4
  have z3 := M1a.out.lt K1'.out
  generalize (w1.alloc (.cells (Array.replicate P (.int .i64 0)) 2)).drew = w1b at M1a z1 z2 z3 ⊢
  go_wp2_with fail
  refine NoPanic.normal ?_
  obtain ⟨f2, HF2⟩ : ∃ f2 : Nat → Value, Hid ((fun j => if j = 4 then Value.slice (some ⟨hl, 0, none⟩) P P else f1 j) = f2) := ⟨_, rfl⟩
  obtain ⟨ρ2, HR2⟩ : ∃ ρ2, Hid (upd (upd ρ1 (5, 0) (some (bk hl 2 1 P P (List.replicate P (.int .i64 0))))) (4, 0) (some (bk C 43 10 1 1 (catl f2))) = ρ2) := ⟨_, rfl⟩
  have M2 : Hid (Mm w0 (w1b.setCell ⟨C, 4, none⟩ (.slice (some ⟨hl, 0, none⟩) P P)) B ρ2) := by
    have h := M1a.out.store K1'.out 4 (.slice (some ⟨hl, 0, none⟩) P P)
    rw [catl_set f1 4 _ (by omega), HF2.out, HR2.out] at h
    exact h
  clear z1 z2 z3
  generalize w1b.setCell ⟨C, 4, none⟩ (.slice (some ⟨hl, 0, none⟩) P P) = w2 at M2 ⊢
  have K2 : Hid (ρ2 (4, 0) = some (bk C 43 10 1 1 (catl f2))) := by show _ = _; rw [← HR2.out, upd_same]
  have C2 : Hid (ρ2 (4, 1) = some (bk cb 31 1 1 1 [.pointer (some ⟨C, 0, none⟩)])) := by show _ = _; rw [← HR2.out, upd_other _ _ (by simp), upd_other _ _ (by simp)]; exact C1.out
  clear m38
  have RD2 : Hid (f2 0 = .slice (some ⟨hb, 0, none⟩) P P) := by show _ = _; rw [← HF2.out]; simp [RD1.out]
  have RS2 : Hid (f2 3 = .int .i64 S) := by show _ = _; rw [← HF2.out]; simp [RS1.out]
  have y1 := M2.out.cell C2.out 0 rfl
  have y2 := M2.out.cell K2.out 5 (u := f2 5) rfl
  have y3 := M2.out.froz K2.out 5
  have y4 := M2.out.lt K2.out
  go_wp2_with fail
  obtain ⟨f3, HF3⟩ : ∃ f3 : Nat → Value, Hid ((fun j => if j = 5 then .slice none 0 0 else f2 j) = f3) := ⟨_, rfl⟩
  obtain ⟨ρ3, HR3⟩ : ∃ ρ3, Hid (upd ρ2 (4, 0) (some (bk C 43 10 1 1 (catl f3))) = ρ3) := ⟨_, rfl⟩
  have M3 : Hid (Mm w0 (w2.setCell ⟨C, 5, none⟩ (.slice none 0 0)) B ρ3) := by
    have h := M2.out.store K2.out 5 (.slice none 0 0)
    rw [catl_set f2 5 _ (by omega), HF3.out, HR3.out] at h
    exact h
  clear y1 y2 y3 y4
  generalize w2.setCell ⟨C, 5, none⟩ (.slice none 0 0) = w3 at M3 ⊢
  have K3 : Hid (ρ3 (4, 0) = some (bk C 43 10 1 1 (catl f3))) := by show _ = _; rw [← HR3.out, upd_same]
  have C3 : Hid (ρ3 (4, 1) = some (bk cb 31 1 1 1 [.pointer (some ⟨C, 0, none⟩)])) := by show _ = _; rw [← HR3.out, upd_other _ _ (by simp)]; exact C2.out
  have RD3 : Hid (f3 0 = .slice (some ⟨hb, 0, none⟩) P P) := by show _ = _; rw [← HF3.out]; simp [RD2.out]
  have RS3 : Hid (f3 3 = .int .i64 S) := by show _ = _; rw [← HF3.out]; simp [RS2.out]
  have HSS3 : Hid (∀ (w' : World) (ρ' : Lb → Option Rw), Mm w0 w' B ρ' → ρ' (4, 0) = ρ3 (4, 0) → ρ' (4, 1) = ρ3 (4, 1) → w'.cell? ⟨cb, 0, none⟩ = some (.pointer (some ⟨C, 0, none⟩)) ∧ w'.cell? ⟨C, 0, none⟩ = some (.slice (some ⟨hb, 0, none⟩) P P)) := fun w' ρ' h e0 e1 => ⟨h.cell (e1.trans C3.out) 0 rfl, h.cell (e0.trans K3.out) 0 (by rw [← RD3.out]; rfl)⟩
  have m39 := fun w => make39 w P (by omega)
  refine wp_region_late 6 7 (fun w' => w'.cell? ⟨cb, 0, none⟩ = some (.pointer (some ⟨C, 0, none⟩)) ∧ w'.cell? ⟨C, 0, none⟩ = some (.slice (some ⟨hb, 0, none⟩) P P)) (by kernel_rfl) (by kernel_rfl) (HSS3.out w3.drew ρ3 M3.out.drew rfl rfl) ?_
  simp only [List.take_succ_cons, List.take_zero, List.drop_succ_cons, List.drop_zero, Nat.reduceSub]
  repeat (refine wpHead_step (v := ?_) (by rfl) (by intro w hSw; go_simp; try with_reducible rfl) ?_; try simp only [Act.put, List.setIfInBounds_toArray, List.set_cons_zero, List.set_cons_succ])
  refine wpHead_nil ?_
  change wpList _ _ _ _ _ w3.drew
  go_wp2_with fail
  obtain ⟨qb, HB3⟩ : ∃ qb, Hid (w3.heap.size = qb) := ⟨_, rfl⟩
  rw [HB3.out]
  have M3a : Hid (Mm w0 (w3.alloc (.cells (Array.replicate P (.slice none 0 0)) 54)).drew B (upd ρ3 (6, 0) (some (bk qb 54 1 P P (List.replicate P (.slice none 0 0)))))) := by
    have h := (M3.out.box (6, 0) (Array.replicate P (.slice none 0 0)) 54 1 P (by unfold maxLen; omega) (by simp) HB3.out).drew
    rw [Array.toList_replicate] at h
    exact h
  refine ⟨HSS3.out _ _ M3a.out (upd_other _ _ (by simp)) (upd_other _ _ (by simp)), ?_⟩
  change wpList _ _ _ _ _ _
  have K3' : Hid (upd ρ3 (6, 0) (some (bk qb 54 1 P P (List.replicate P (.slice none 0 0)))) (4, 0) = some (bk C 43 10 1 1 (catl f3))) := (upd_other _ _ (by simp)).trans K3.out
  have z1 := M3a.out.cell K3'.out 7 (u := f3 7) rfl
  have z2 := M3a.out.froz K3'.out 7
  have z3 := M3a.out.lt K3'.out
  generalize (w3.alloc (.cells (Array.replicate P (.slice none 0 0)) 54)).drew = w3b at M3a z1 z2 z3 ⊢
  go_wp2_with fail
  refine NoPanic.normal ?_
  obtain ⟨f4, HF4⟩ : ∃ f4 : Nat → Value, Hid ((fun j => if j = 7 then Value.slice (some ⟨qb, 0, none⟩) P P else f3 j) = f4) := ⟨_, rfl⟩
  obtain ⟨ρ4, HR4⟩ : ∃ ρ4, Hid (upd (upd ρ3 (6, 0) (some (bk qb 54 1 P P (List.replicate P (.slice none 0 0))))) (4, 0) (some (bk C 43 10 1 1 (catl f4))) = ρ4) := ⟨_, rfl⟩
  have M4 : Hid (Mm w0 (w3b.setCell ⟨C, 7, none⟩ (.slice (some ⟨qb, 0, none⟩) P P)) B ρ4) := by
    have h := M3a.out.store K3'.out 7 (.slice (some ⟨qb, 0, none⟩) P P)
    rw [catl_set f3 7 _ (by omega), HF4.out, HR4.out] at h
    exact h
  clear z1 z2 z3
  generalize w3b.setCell ⟨C, 7, none⟩ (.slice (some ⟨qb, 0, none⟩) P P) = w4 at M4 ⊢
  have K4 : Hid (ρ4 (4, 0) = some (bk C 43 10 1 1 (catl f4))) := by show _ = _; rw [← HR4.out, upd_same]
  have C4 : Hid (ρ4 (4, 1) = some (bk cb 31 1 1 1 [.pointer (some ⟨C, 0, none⟩)])) := by show _ = _; rw [← HR4.out, upd_other _ _ (by simp), upd_other _ _ (by simp)]; exact C3.out
  clear m39
  have RH4 : Hid (f4 0 = .slice (some ⟨hb, 0, none⟩) P P) := by show _ = _; rw [← HF4.out]; simp [RD3.out]
  have RD4 : Hid (f4 3 = .int .i64 S) := by show _ = _; rw [← HF4.out]; simp [RS3.out]
  go_wp2_with fail
  have HSS4 : Hid (∀ (w' : World) (ρ' : Lb → Option Rw), Mm w0 w' B ρ' → ρ' (4, 0) = ρ4 (4, 0) → ρ' (4, 1) = ρ4 (4, 1) → w'.cell? ⟨cb, 0, none⟩ = some (.pointer (some ⟨C, 0, none⟩)) ∧ w'.cell? ⟨C, 3, none⟩ = some (.int .i64 S)) := fun w' ρ' h e0 e1 => ⟨h.cell (e1.trans C4.out) 0 rfl, h.cell (e0.trans K4.out) 3 (by rw [← RD4.out]; rfl)⟩
  have m41 := fun w => make41 w S (by omega)
  refine wp_region_late 5 6 (fun w' => w'.cell? ⟨cb, 0, none⟩ = some (.pointer (some ⟨C, 0, none⟩)) ∧ w'.cell? ⟨C, 3, none⟩ = some (.int .i64 S)) (by kernel_rfl) (by kernel_rfl) (HSS4.out w4.drew ρ4 M4.out.drew rfl rfl) ?_
  simp only [List.take_succ_cons, List.take_zero, List.drop_succ_cons, List.drop_zero, Nat.reduceSub]
  repeat (refine wpHead_step (v := ?_) (by rfl) (by intro w hSw; go_simp; try with_reducible rfl) ?_; try simp only [Act.put, List.setIfInBounds_toArray, List.set_cons_zero, List.set_cons_succ])
  refine wpHead_nil ?_
  change wpList _ _ _ _ _ w4.drew
  go_wp2_with fail
  obtain ⟨nb, HB4⟩ : ∃ nb, Hid (w4.heap.size = nb) := ⟨_, rfl⟩
  rw [HB4.out]
  have M4a : Hid (Mm w0 (w4.alloc (.cells (Array.replicate S (.string ⟨#[]⟩)) 9)).drew B (upd ρ4 (8, 0) (some (bk nb 9 1 S S (List.replicate S (.string ⟨#[]⟩)))))) := by
    have h := (M4.out.box (8, 0) (Array.replicate S (.string ⟨#[]⟩)) 9 1 S (by unfold maxLen; omega) (by simp) HB4.out).drew
    rw [Array.toList_replicate] at h
    exact h
  refine ⟨HSS4.out _ _ M4a.out (upd_other _ _ (by simp)) (upd_other _ _ (by simp)), ?_⟩
  change wpList _ _ _ _ _ _
  have K4' : Hid (upd ρ4 (8, 0) (some (bk nb 9 1 S S (List.replicate S (.string ⟨#[]⟩)))) (4, 0) = some (bk C 43 10 1 1 (catl f4))) := (upd_other _ _ (by simp)).trans K4.out
  have z1 := M4a.out.cell K4'.out 9 (u := f4 9) rfl
  have z2 := M4a.out.froz K4'.out 9
  have z3 := M4a.out.lt K4'.out
  generalize (w4.alloc (.cells (Array.replicate S (.string ⟨#[]⟩)) 9)).drew = w4b at M4a z1 z2 z3 ⊢
  go_wp2_with fail
  refine NoPanic.normal ?_
  obtain ⟨f5, HF5⟩ : ∃ f5 : Nat → Value, Hid ((fun j => if j = 9 then Value.slice (some ⟨nb, 0, none⟩) S S else f4 j) = f5) := ⟨_, rfl⟩
  obtain ⟨ρ5, HR5⟩ : ∃ ρ5, Hid (upd (upd ρ4 (8, 0) (some (bk nb 9 1 S S (List.replicate S (.string ⟨#[]⟩))))) (4, 0) (some (bk C 43 10 1 1 (catl f5))) = ρ5) := ⟨_, rfl⟩
  have M5 : Hid (Mm w0 (w4b.setCell ⟨C, 9, none⟩ (.slice (some ⟨nb, 0, none⟩) S S)) B ρ5) := by
    have h := M4a.out.store K4'.out 9 (.slice (some ⟨nb, 0, none⟩) S S)
    rw [catl_set f4 9 _ (by omega), HF5.out, HR5.out] at h
    exact h
  clear z1 z2 z3
  generalize w4b.setCell ⟨C, 9, none⟩ (.slice (some ⟨nb, 0, none⟩) S S) = w5 at M5 ⊢
  have K5 : Hid (ρ5 (4, 0) = some (bk C 43 10 1 1 (catl f5))) := by show _ = _; rw [← HR5.out, upd_same]
  have C5 : Hid (ρ5 (4, 1) = some (bk cb 31 1 1 1 [.pointer (some ⟨C, 0, none⟩)])) := by show _ = _; rw [← HR5.out, upd_other _ _ (by simp), upd_other _ _ (by simp)]; exact C4.out
  clear m41
  have RH5 : Hid (f5 0 = .slice (some ⟨hb, 0, none⟩) P P) := by show _ = _; rw [← HF5.out]; simp [RH4.out]
  have RS5 : Hid (f5 3 = .int .i64 S) := by show _ = _; rw [← HF5.out]; simp [RD4.out]
  have m23 := fun w => make23 w S (by omega)
  have y1 := M5.out.cell C5.out 0 rfl
  have y2 : w5.cell? ⟨C, 3, none⟩ = some (.int .i64 S) := M5.out.cell K5.out 3 (by rw [← RS5.out]; rfl)
  have y3 : w5.cell? ⟨C, 0, none⟩ = some (.slice (some ⟨hb, 0, none⟩) P P) := M5.out.cell K5.out 0 (by rw [← RH5.out]; rfl)
  have y4 := M5.out.lt K5.out
  have y5 := M5.out.lt C5.out
  go_upto_block 0 with fail
  obtain ⟨sb, HSB⟩ : ∃ sb, Hid (w5.heap.size = sb) := ⟨_, rfl⟩
  rw [HSB.out]
  have M6 : Hid (Mm w0 (w5.alloc (.cells (Array.replicate S (.slice none 0 0)) 30)) B (upd ρ5 (9, 0) (some (bk sb 30 1 S S (List.replicate S (.slice none 0 0)))))) := by
    have h := M5.out.box (9, 0) (Array.replicate S (.slice none 0 0)) 30 1 S (by unfold maxLen; omega) (by simp) HSB.out
    rw [Array.toList_replicate] at h
    exact h
  clear y1 y2 y3 y4 y5 m23
  generalize w5.alloc (.cells (Array.replicate S (.slice none 0 0)) 30) = w6 at M6 ⊢
  have M6' : Hid (Mm w0 w6 B (st1 ρ C cb hb hl qb nb sb P S f5 hv runs (fun _ => 0) (.slice none 0 0) [] (fun _ => .slice none 0 0) (fun _ => []) (fun _ => false) (fun _ => .slice none 0 0) (fun _ => []))) := by
    refine M6.out.weak (st1_start ρ _ C cb hb hl qb nb sb P S f5 hv runs ?_ ?_ ?_ ?_ ?_ ?_ ?_ H1.out HR.out)
    · rw [upd_other _ _ (by simp), K5.out, ← HF5.out, ← HF4.out, ← HF3.out]; rfl
    · rw [upd_other _ _ (by simp)]; exact C5.out
    · rw [← HR5.out, ← HR4.out, ← HR3.out, ← HR2.out]; simp [upd]
    · rw [← HR5.out, ← HR4.out]; simp [upd]
    · rw [← HR5.out]; simp [upd]
    · rw [upd_same]
    · intro l e1 e2 e3 e4 e5 e6
      rw [← HR5.out, ← HR4.out, ← HR3.out, ← HR2.out, ← HR1.out]; simp [upd, e1, e2, e3, e4, e5, e6]
  refine loop1 w0 w6 B ρ C cb hb hl qb nb sb P S f5 hv runs (.slice none 0 0) M6'.out hP hS (by rw [← HF5.out, ← HF4.out, ← HF3.out, ← HF2.out]; rfl) (by rw [← HF5.out, ← HF4.out]; rfl) (by rw [← HF5.out]; rfl) HF.out HT.out _ ?_
  intro x3 x4 x6 x7 x9 x10 x11 x12 x14 x58 x59 x60 x61 x62 x63 x64 x65 x66 x67 x68 x69 x70 x71 x72 x73 x74 x75 x76 x77 x78 x79 x80 x81 x82 x83 x84 x85 x86 x87 x88 x89 x90 x91 x92 x93 x94 x95 x96 x97 x98 x99 x100 x101 x102 x103 x104 x105 x106 x107 x108 x109 x110 x111 x112 x113 x114 x115 x116 x117 x118 x119 x120 x121 x122 x123 x124 x125 x126 x127 x128 x129 x130 x131 x132 x133 x134 x135 x136 x137 x138 x139 x140 x141 x142 x143 x144 x145 x146 x147 x148 x149 x150 x151 x152 x153 x154 x155 x156 x157 x158 x159 x160 x161 x162 x163 x164 x165 x166 x167 x168 x169 x170 x171 x172 x173 x174 x175 x176 x177 x178 x179 x180 x181 x182 x183 x184 x185 x186 x187 x188 x189 x190 x191 x192 x193 rr hs acs byf bs vs secs pr vb rows w7 hm7 hi7
  obtain ⟨ρ7, HR7⟩ : ∃ ρ7, Hid (st1 ρ C cb hb hl qb nb sb P S f5 hv rr hs byf bs vs secs pr vb rows = ρ7) := ⟨_, rfl⟩
  have M7 : Hid (Mm w0 w7 B ρ7) := by show Mm _ _ _ _; rw [← HR7.out]; exact hm7
  have HI : Hid (Inv1 P P runs rr hs acs bs vs secs pr rows) := hi7
  clear hm7 hi7
  obtain ⟨f7, HF7⟩ : ∃ f7 : Nat → Value, Hid ((fun j => if j = 5 then byf else f5 j) = f7) := ⟨_, rfl⟩
  have K7 : Hid (ρ7 (4, 0) = some (bk C 43 10 1 1 (catl f7))) := by show _ = _; rw [← HR7.out, ← HF7.out]; rfl
  have C7 : Hid (ρ7 (4, 1) = some (bk cb 31 1 1 1 [.pointer (some ⟨C, 0, none⟩)])) := by show _ = _; rw [← HR7.out]; rfl
  have RD7 : Hid (f7 3 = .int .i64 S) := by show _ = _; rw [← HF7.out]; simp [RS5.out]
  go_wp2_with fail
  have HSS7 : Hid (∀ (w' : World) (ρ' : Lb → Option Rw), Mm w0 w' B ρ' → ρ' (4, 0) = ρ7 (4, 0) → ρ' (4, 1) = ρ7 (4, 1) → w'.cell? ⟨cb, 0, none⟩ = some (.pointer (some ⟨C, 0, none⟩)) ∧ w'.cell? ⟨C, 3, none⟩ = some (.int .i64 S)) := fun w' ρ' h e0 e1 => ⟨h.cell (e1.trans C7.out) 0 rfl, h.cell (e0.trans K7.out) 3 (by rw [← RD7.out]; rfl)⟩
  have m40 := fun w => make40 w S (by omega)
  refine wp_region_late 5 6 (fun w' => w'.cell? ⟨cb, 0, none⟩ = some (.pointer (some ⟨C, 0, none⟩)) ∧ w'.cell? ⟨C, 3, none⟩ = some (.int .i64 S)) (by kernel_rfl) (by kernel_rfl) (HSS7.out w7.drew ρ7 M7.out.drew rfl rfl) ?_
  simp only [List.take_succ_cons, List.take_zero, List.drop_succ_cons, List.drop_zero, Nat.reduceSub]
  repeat (refine wpHead_step (v := ?_) (by rfl) (by intro w hSw; go_simp; try with_reducible rfl) ?_; try simp only [Act.put, List.setIfInBounds_toArray, List.set_cons_zero, List.set_cons_succ])
  refine wpHead_nil ?_
  change wpList _ _ _ _ _ w7.drew
  go_wp2_with fail
  obtain ⟨ib, HB7⟩ : ∃ ib, Hid (w7.heap.size = ib) := ⟨_, rfl⟩
  rw [HB7.out]
  have M7a : Hid (Mm w0 (w7.alloc (.cells (Array.replicate S (.slice none 0 0)) 51)).drew B (upd ρ7 (13, 0) (some (bk ib 51 1 S S (List.replicate S (.slice none 0 0)))))) := by
    have h := (M7.out.box (13, 0) (Array.replicate S (.slice none 0 0)) 51 1 S (by unfold maxLen; omega) (by simp) HB7.out).drew
    rw [Array.toList_replicate] at h
    exact h
  refine ⟨HSS7.out _ _ M7a.out (upd_other _ _ (by simp)) (upd_other _ _ (by simp)), ?_⟩
  change wpList _ _ _ _ _ _
  have K7' : Hid (upd ρ7 (13, 0) (some (bk ib 51 1 S S (List.replicate S (.slice none 0 0)))) (4, 0) = some (bk C 43 10 1 1 (catl f7))) := (upd_other _ _ (by simp)).trans K7.out
  have z1 := M7a.out.cell K7'.out 8 (u := f7 8) rfl
  have z2 := M7a.out.froz K7'.out 8
  have z3 := M7a.out.lt K7'.out
  generalize (w7.alloc (.cells (Array.replicate S (.slice none 0 0)) 51)).drew = w7b at M7a z1 z2 z3 ⊢
  go_wp2_with fail
  refine NoPanic.normal ?_
  obtain ⟨f8, HF8⟩ : ∃ f8 : Nat → Value, Hid ((fun j => if j = 8 then Value.slice (some ⟨ib, 0, none⟩) S S else f7 j) = f8) := ⟨_, rfl⟩
  obtain ⟨ρ8, HR8⟩ : ∃ ρ8, Hid (upd (upd ρ7 (13, 0) (some (bk ib 51 1 S S (List.replicate S (.slice none 0 0))))) (4, 0) (some (bk C 43 10 1 1 (catl f8))) = ρ8) := ⟨_, rfl⟩
  have M8 : Hid (Mm w0 (w7b.setCell ⟨C, 8, none⟩ (.slice (some ⟨ib, 0, none⟩) S S)) B ρ8) := by
    have h := M7a.out.store K7'.out 8 (.slice (some ⟨ib, 0, none⟩) S S)
    rw [catl_set f7 8 _ (by omega), HF8.out, HR8.out] at h
    exact h
  clear z1 z2 z3
  generalize w7b.setCell ⟨C, 8, none⟩ (.slice (some ⟨ib, 0, none⟩) S S) = w8 at M8 ⊢
  have K8 : Hid (ρ8 (4, 0) = some (bk C 43 10 1 1 (catl f8))) := by show _ = _; rw [← HR8.out, upd_same]
  have C8 : Hid (ρ8 (4, 1) = some (bk cb 31 1 1 1 [.pointer (some ⟨C, 0, none⟩)])) := by show _ = _; rw [← HR8.out, upd_other _ _ (by simp), upd_other _ _ (by simp)]; exact C7.out
  clear m40
  go_upto_block 10 with fail
  have M8' : Hid (Mm w0 w8 B (st6 ρ8 ib S vb rows 0 (fun _ => .slice none 0 0) (fun _ => []))) := by
    refine M8.out.weak (fun l => ?_)
    obtain ⟨x, y⟩ := l
    by_cases e10 : x = 10
    · subst e10; left; rw [← HR8.out, ← HR7.out]; simp [st6, upd, st1]
    by_cases e14 : x = 14
    · subst e14; right; left; simp [st6]
    by_cases e13 : x = 13 ∧ y = 0
    · obtain ⟨rfl, rfl⟩ := e13; left; rw [← HR8.out]; simp [st6, upd, vals, List.map_const']
    · left; exact st6_other e10 e14 (by simp; exact fun h1 h2 => e13 ⟨h1, h2⟩)
  have b9 : ρ8 (9, 0) = some (bk sb 30 1 S S (vals S vb)) := by rw [← HR8.out, ← HR7.out]; simp [upd, st1]
  have HFR : ∀ k, Fine S (rows k) := fun k r hr => by
    rw [HI.out.rows k] at hr
    obtain ⟨q, hq, hr2⟩ := List.mem_flatMap.1 hr
    exact HF.out q r ((HI.out.perm q).mem_iff.1 (List.mem_filter.1 hr2).1)
  refine loop6 w0 w8 B ρ8 C cb sb ib S (catl f8) vb rows M8'.out hS (by rw [← HF8.out]; rfl) (fun k => ⟨HI.out.rows_len (Nat.le_refl _) HT.out k, HFR k⟩) K8.out C8.out b9 _ ?_
  clear b9 HFR
  intro x15 x16 x204 x205 x206 x207 x208 x209 x210 x211 x212 x213 x214 x215 x216 x217 x218 x219 vi acs6 w9 hm9 hits9
  obtain ⟨ρ9, HR9⟩ : ∃ ρ9, Hid (st6 ρ8 ib S vb rows S vi acs6 = ρ9) := ⟨_, rfl⟩
  have M9 : Hid (Mm w0 w9 B ρ9) := by show Mm _ _ _ _; rw [← HR9.out]; exact hm9
  have HITS : Hid (∀ k, k < S → Its rows vi acs6 k) := hits9
  clear hm9 hits9
  have K9 : Hid (ρ9 (4, 0) = some (bk C 43 10 1 1 (catl f8))) := by show _ = _; rw [← HR9.out]; exact (st6_other (by simp) (by simp) (by simp)).trans K8.out
  have C9 : Hid (ρ9 (4, 1) = some (bk cb 31 1 1 1 [.pointer (some ⟨C, 0, none⟩)])) := by show _ = _; rw [← HR9.out]; exact (st6_other (by simp) (by simp) (by simp)).trans C8.out
  have b12 : ρ9 (12, 0) = some ⟨byf, 35, 3, bs.length, fl Hs.enc bs⟩ := by rw [← HR9.out]; refine (st6_other (by simp) (by simp) (by simp)).trans ?_; rw [← HR8.out, ← HR7.out]; simp [upd, st1]
  have hf85 : f8 5 = byf := by rw [← HF8.out, ← HF7.out]; simp
  obtain ⟨n, hn⟩ : ∃ n, bs.length = n := ⟨_, rfl⟩
  have hnle : n ≤ 24576 := by have := HI.out.bs_len; omega
  obtain ⟨a5, c5, hby⟩ := own_form (M9.out.mem.own _ _ b12)
  simp only at hby
  rw [hn] at hby
  subst hby
  have HN : Hid (bs.length = n) := hn
  clear hn
  have y1 := M9.out.cell C9.out 0 rfl
  have y2 : w9.cell? ⟨C, 5, none⟩ = some (.slice a5 n c5) := M9.out.cell K9.out 5 (by rw [← hf85]; rfl)
  have y4 := M9.out.lt K9.out
  have y5 := M9.out.lt C9.out
  have HF85 : Hid _ := hf85
  have B12 : Hid _ := b12
  clear hf85 b12
  go_wp2_with fail
  have CS : Hid (Calls Yba.prog 32 #[.iface 36 (.slice a5 n c5), .func (.func 34) #[] #[.pointer (some ⟨cb, 0, none⟩)]] w9 fun e w' =>
      e = .returned (.tuple #[]) ∧ ∃ l', l'.Perm bs ∧ AscF l' ∧ w'.ownsRow B 35 3 (.slice a5 n c5) bs.length (fl Hs.enc l') ∧ w9.grownBy w' (Value.slice a5 n c5).ownBlock) :=
    sortSpanOwn B (.slice a5 n c5) bs cb C w9 (by rw [HN.out]; omega) (M9.out.mem.own _ _ B12.out) y1 y2 (fun g hg => ⟨fun e => M9.out.apart C9.out B12.out (by simp) hg (by rw [e]; rfl), fun e => M9.out.apart K9.out B12.out (by simp) hg (by rw [e]; rfl)⟩) ⟨y5, y4⟩
  refine Calls.mono CS.out ?_
  rintro e w10 ⟨rfl, bs', hpb, hab, hob, hgb⟩
  obtain ⟨ρ10, HR10⟩ : ∃ ρ10, Hid (upd ρ9 (12, 0) (some ⟨.slice a5 n c5, 35, 3, bs.length, fl Hs.enc bs'⟩) = ρ10) := ⟨_, rfl⟩
  have M10 : Hid (Mm w0 w10 B ρ10) := by show Mm _ _ _ _; rw [← HR10.out]; exact M9.out.put B12.out hgb hob (fun g hg => .inl hg)
  have HPB : Hid (bs'.Perm bs) := hpb
  have HAB : Hid (AscF bs') := hab
  have HNB : Hid (bs'.length = n) := by show _ = _; rw [hpb.length_eq]; exact HN.out
  clear hpb hab hob hgb y1 y2 y4 y5 CS
  obtain ⟨f10, HF10⟩ : ∃ f10 : Nat → Value, Hid (f8 = f10) := ⟨_, rfl⟩
  have K10 : Hid (ρ10 (4, 0) = some (bk C 43 10 1 1 (catl f10))) := by show _ = _; rw [← HR10.out, upd_other _ _ (by simp), ← HF10.out]; exact K9.out
  have C10 : Hid (ρ10 (4, 1) = some (bk cb 31 1 1 1 [.pointer (some ⟨C, 0, none⟩)])) := by show _ = _; rw [← HR10.out, upd_other _ _ (by simp)]; exact C9.out
  have RD10 : Hid (f10 5 = .slice a5 n c5) := by show _ = _; rw [← HF10.out]; exact HF85.out
  go_wp2_with fail
  have HSS10 : Hid (∀ (w' : World) (ρ' : Lb → Option Rw), Mm w0 w' B ρ' → ρ' (4, 0) = ρ10 (4, 0) → ρ' (4, 1) = ρ10 (4, 1) → w'.cell? ⟨cb, 0, none⟩ = some (.pointer (some ⟨C, 0, none⟩)) ∧ w'.cell? ⟨C, 5, none⟩ = some (.slice a5 n c5)) := fun w' ρ' h e0 e1 => ⟨h.cell (e1.trans C10.out) 0 rfl, h.cell (e0.trans K10.out) 5 (by rw [← RD10.out]; rfl)⟩
  have m38 := fun w => make38 w n (by omega)
  refine wp_region_late 6 7 (fun w' => w'.cell? ⟨cb, 0, none⟩ = some (.pointer (some ⟨C, 0, none⟩)) ∧ w'.cell? ⟨C, 5, none⟩ = some (.slice a5 n c5)) (by kernel_rfl) (by kernel_rfl) (HSS10.out w10.drew ρ10 M10.out.drew rfl rfl) ?_
  simp only [List.take_succ_cons, List.take_zero, List.drop_succ_cons, List.drop_zero, Nat.reduceSub]
  repeat (refine wpHead_step (v := ?_) (by rfl) (by intro w hSw; go_simp; try with_reducible rfl) ?_; try simp only [Act.put, List.setIfInBounds_toArray, List.set_cons_zero, List.set_cons_succ])
  refine wpHead_nil ?_
  change wpList _ _ _ _ _ w10.drew
  go_wp2_with fail
  obtain ⟨eb, HB10⟩ : ∃ eb, Hid (w10.heap.size = eb) := ⟨_, rfl⟩
  rw [HB10.out]
  have M10a : Hid (Mm w0 (w10.alloc (.cells (Array.replicate n (.int .i64 0)) 2)).drew B (upd ρ10 (15, 0) (some (bk eb 2 1 n n (List.replicate n (.int .i64 0)))))) := by
    have h := (M10.out.box (15, 0) (Array.replicate n (.int .i64 0)) 2 1 n (by unfold maxLen; omega) (by simp) HB10.out).drew
    rw [Array.toList_replicate] at h
    exact h
  refine ⟨HSS10.out _ _ M10a.out (upd_other _ _ (by simp)) (upd_other _ _ (by simp)), ?_⟩
  change wpList _ _ _ _ _ _
  have K10' : Hid (upd ρ10 (15, 0) (some (bk eb 2 1 n n (List.replicate n (.int .i64 0)))) (4, 0) = some (bk C 43 10 1 1 (catl f10))) := (upd_other _ _ (by simp)).trans K10.out
  have z1 := M10a.out.cell K10'.out 6 (u := f10 6) rfl
  have z2 := M10a.out.froz K10'.out 6
  have z3 := M10a.out.lt K10'.out
  generalize (w10.alloc (.cells (Array.replicate n (.int .i64 0)) 2)).drew = w10b at M10a z1 z2 z3 ⊢
  go_wp2_with fail
  refine NoPanic.normal ?_
  obtain ⟨f11, HF11⟩ : ∃ f11 : Nat → Value, Hid ((fun j => if j = 6 then Value.slice (some ⟨eb, 0, none⟩) n n else f10 j) = f11) := ⟨_, rfl⟩
  obtain ⟨ρ11, HR11⟩ : ∃ ρ11, Hid (upd (upd ρ10 (15, 0) (some (bk eb 2 1 n n (List.replicate n (.int .i64 0))))) (4, 0) (some (bk C 43 10 1 1 (catl f11))) = ρ11) := ⟨_, rfl⟩
  have M11 : Hid (Mm w0 (w10b.setCell ⟨C, 6, none⟩ (.slice (some ⟨eb, 0, none⟩) n n)) B ρ11) := by
    have h := M10a.out.store K10'.out 6 (.slice (some ⟨eb, 0, none⟩) n n)
    rw [catl_set f10 6 _ (by omega), HF11.out, HR11.out] at h
    exact h
  clear z1 z2 z3
  generalize w10b.setCell ⟨C, 6, none⟩ (.slice (some ⟨eb, 0, none⟩) n n) = w11 at M11 ⊢
  have K11 : Hid (ρ11 (4, 0) = some (bk C 43 10 1 1 (catl f11))) := by show _ = _; rw [← HR11.out, upd_same]
  have C11 : Hid (ρ11 (4, 1) = some (bk cb 31 1 1 1 [.pointer (some ⟨C, 0, none⟩)])) := by show _ = _; rw [← HR11.out, upd_other _ _ (by simp), upd_other _ _ (by simp)]; exact C10.out
  clear m38
  have RD11 : Hid (f11 5 = .slice a5 n c5) := by show _ = _; rw [← HF11.out]; simp [RD10.out]
  have y1 := M11.out.cell C11.out 0 rfl
  have y2 : w11.cell? ⟨C, 5, none⟩ = some (.slice a5 n c5) := M11.out.cell K11.out 5 (by rw [← RD11.out]; rfl)
  have y4 := M11.out.lt K11.out
  have y5 := M11.out.lt C11.out
  go_upto_block 12 with fail
  have hnb := HNB.out
  subst hnb
  have b12 : ρ11 (12, 0) = some ⟨.slice a5 bs'.length c5, 35, 3, bs'.length, fl Hs.enc bs'⟩ := by rw [← HR11.out, ← HR10.out]; simp [upd, HN.out]
  have b15 : ρ11 (15, 0) = some (bk eb 2 1 bs'.length bs'.length (rch bs' 0)) := by rw [← HR11.out]; simp [upd, rch, vals, List.map_const']
  refine loop7 w0 w11 B ρ11 C cb eb (catl f11) (.slice a5 bs'.length c5) bs' M11.out (by omega) (by rw [← HF11.out]; rfl) K11.out C11.out b12 b15 _ ?_
  intro x17 x18 x241 x242 x243 x244 x245 x246 x247 x248 x249 x250 x251 x252 x253 x254 x255 x256 x257 x258 x259 x260 x261 x262 x263 x264 x265 x266 x267 x268 x269 x270 x271 x272 x273 x274 x275 x276 x277 x278 x279 w12 hm12
  go_wp2_with fail
  go_end0
  refine ⟨rfl, ?_⟩
  unfold IxPost
  refine ⟨_, rr, hs, acs, .slice a5 bs'.length c5, bs, bs', vs, secs, pr, rows, vi, acs6, hl, qb, nb, ib, eb, hm12, HI.out, HPB.out, HAB.out, HITS.out, ?_⟩
  refine ⟨?_, fun q hq => ?_, ?_, ?_, ?_, fun q hq => ?_, ?_, ?_, ?_, fun k hk => ?_, ?_, fun l hl2 => ?_⟩
  · rw [show st7 ρ11 eb bs' bs'.length (4, 0) = ρ11 (4, 0) by simp [st7, upd], K11.out, ← HF11.out, ← HF10.out, ← HF8.out, ← HF7.out, ← HF5.out, ← HF4.out, ← HF3.out, ← HF2.out, ← HF1.out]; rfl
  all_goals (first | (simp only [st7]; rw [← HR11.out, ← HR10.out, ← HR9.out, ← HR8.out, ← HR7.out]) | skip)
  · simp [upd, st6, st1, hq]
  · simp [upd, st6, st1]
  · simp [upd, st6, st1]
  · simp [upd, st6, st1]
  · simp [upd, st6, st1, hq]
  · simp [upd, st6, st1]
  · simp [upd, st6, st1, HN.out]
  · simp [upd, st6, st1]
  · simp [upd, st6, st1, hk]
  · simp [upd, st6, st1]
  · obtain ⟨x, y⟩ := l
    rcases hl2 with e | e <;> simp only at e <;> subst e <;> simp [upd, st6, st1]

end Go.Proofs.Ybulkebla

