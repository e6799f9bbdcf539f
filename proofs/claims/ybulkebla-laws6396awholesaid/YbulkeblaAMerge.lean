import Derived.Test.YbulkeblaASpan
import Derived.WalkKit
import Derived.ProofKit
import Derived.Below
import Derived.Lib.Walk
import Derived.BigGuard
import Derived.BigCall
import Derived.CellFam
import Derived.Deep.Draws
import Derived.Deep.QuietTactic
import Derived.BigQuiet
import Derived.BigRegion
import Derived.Laws.OwnMore
import Derived.Lib.SmallJoins
/-! merge (31). -/
namespace Go.Proofs.Ybulkebla
open Go.RowKit Go.Lib
set_option linter.unusedVariables false

theorem info33 : Yba.prog.info? 33 = some Yba.t33 := by kernel_rfl
theorem cells29 : Yba.prog.cellsOf 29 = 4 := by kernel_rfl
theorem cells33 : Yba.prog.cellsOf 33 = 2 := by kernel_rfl

/-- The spans' cells. -/
def spc : List Sp → List Value
  | [] => []
  | s :: l => .int .i64 s.first :: .int .i64 s.last :: spc l

theorem spc_append (a b : List Sp) : spc (a ++ b) = spc a ++ spc b := by
  induction a with
  | nil => rfl
  | cons s a ih => simp [spc, ih]
theorem spc_len (a : List Sp) : (spc a).length = a.length * 2 := by
  induction a with
  | nil => rfl
  | cons s a ih => simp [spc, ih]; omega
theorem spc_last (a : List Sp) (s : Sp) : (spc (a ++ [s]))[a.length * 2 + 1]? = some (.int .i64 s.last) := by
  rw [spc_append, List.getElem?_append_right (by rw [spc_len]; omega), spc_len]
  rw [show a.length * 2 + 1 - a.length * 2 = 1 by omega]; rfl
theorem spc_set (a : List Sp) (s : Sp) (x : Int) : (spc (a ++ [s])).set (a.length * 2 + 1) (.int .i64 x) = spc (a ++ [⟨s.first, x⟩]) := by
  rw [spc_append, spc_append, List.set_append_right _ _ (by rw [spc_len]; omega), spc_len]
  rw [show a.length * 2 + 1 - a.length * 2 = 1 by omega]; rfl

/-- A slice of runs: nothing, or a row of four cells an element: word, section, first, count. -/
def RRow (B : Nat) (w : World) (a : Option Addr) (n : Nat) (W : Nat → ByteArray) (I F C : Nat → Int) : Prop :=
  n = 0 ∨ ∃ b off, a = some ⟨b, off, none⟩ ∧ b < B ∧ ∀ k, k < n → w.cell? ⟨b, off + k * 4, none⟩ = some (.string (W k)) ∧ w.cell? ⟨b, off + k * 4 + 1, none⟩ = some (.int .i64 (I k)) ∧
    w.cell? ⟨b, off + k * 4 + 2, none⟩ = some (.int .i64 (F k)) ∧ w.cell? ⟨b, off + k * 4 + 3, none⟩ = some (.int .i64 (C k))

theorem drewNb {B : Nat} {a w : World} (h : Below B a w) (q : Nat) : Below B a (w.drewN q) := ⟨h.os, h.tape, h.output, h.size, h.block⟩

set_option maxHeartbeats 2000000 in
set_option maxRecDepth 100000 in
theorem merge (B n c : Nat) (a : Option Addr) (W : Nat → ByteArray) (I F C : Nat → Int) (w : World) (hn : n ≤ 4096) (hB : B ≤ w.heap.size) (h : RRow B w a n W I F C)
    (hF : ∀ k, k < n → -32768 ≤ F k ∧ F k ≤ 32767) (hC : ∀ k, k < n → 1 ≤ C k ∧ C k ≤ 16) (hs : ∀ i j, i < j → j < n → F i ≤ F j) :
    Calls Yba.prog 31 #[.slice a n c] w fun e w' => ∃ v acc, e = .returned v ∧ w'.ownsRow w.heap.size 33 2 v acc.length (spc acc) ∧ Below w.heap.size w w' ∧ MergeInv ((List.range n).map fun k => (F k, F k + C k - 1)) acc ∧ (acc = [] → v = .slice none 0 0) ∧ acc.length ≤ n := by
  rcases Nat.eq_zero_or_pos n with hz | hz
  · subst hz
    clear h
    go_enter Yba.func31, Yba.ntmps31
    go_wp2_with fail
    refine wp_loop_rounds 1 ?_
    rw [rounds_succ]
    go_wp2_with fail
    go_ret
    exact ⟨_, [], rfl, World.ownsRow_nil _ _ _ _, Below.refl _ _, merge_start, fun _ => rfl, by simp⟩
  · rcases h with h | ⟨b, o, rfl, l, h⟩
    · omega
    have H : Hid (∀ k, k < n → w.cell? ⟨b, o + k * 4, none⟩ = some (.string (W k)) ∧ w.cell? ⟨b, o + k * 4 + 1, none⟩ = some (.int .i64 (I k)) ∧
      w.cell? ⟨b, o + k * 4 + 2, none⟩ = some (.int .i64 (F k)) ∧ w.cell? ⟨b, o + k * 4 + 3, none⟩ = some (.int .i64 (C k))) := h
    clear h
    go_enter Yba.func31, Yba.ntmps31
    go_wp2_with fail
    go_loopw [3, 10] (fun v3 v10 wr => ∃ (i : Nat) (v : Value) (acc : List Sp), v3 = v ∧ v10 = .int .i64 i ∧ i ≤ n ∧ acc.length ≤ i ∧ Hid (acc = [] → v = .slice none 0 0) ∧ Hid (wr.ownsRow w.heap.size 33 2 v acc.length (spc acc)) ∧ Hid (Below w.heap.size w wr) ∧
      Hid (MergeInv ((List.range i).map fun k => (F k, F k + C k - 1)) acc)) (fun v3 v10 _ => n - (RowKit.intOf v10).toNat)
    case atStart => exact ⟨0, _, [], rfl, rfl, by omega, by simp, fun _ => rfl, World.ownsRow_nil _ _ _ _, Below.refl _ _, merge_start⟩
    case round =>
      obtain ⟨i, v, acc, hv, rfl, hi, hal, HE, HO, HB, HM⟩ := hrel
      have hv2 := hv.symm
      clear hv
      subst hv2
      by_cases hin : i < n
      · have hq := H.out i hin
        have hb' : b < w.heap.size := by omega
        have c0 : wr.cell? ⟨b, o + i * 4, none⟩ = some (.string (W i)) := (HB.out.cell (p := ⟨b, o + i * 4, none⟩) hb').trans hq.1
        have c1 : wr.cell? ⟨b, o + i * 4 + 1, none⟩ = some (.int .i64 (I i)) := (HB.out.cell (p := ⟨b, o + i * 4 + 1, none⟩) hb').trans hq.2.1
        have c2 : wr.cell? ⟨b, o + i * 4 + 2, none⟩ = some (.int .i64 (F i)) := (HB.out.cell (p := ⟨b, o + i * 4 + 2, none⟩) hb').trans hq.2.2.1
        have c3 : wr.cell? ⟨b, o + i * 4 + 3, none⟩ = some (.int .i64 (C i)) := (HB.out.cell (p := ⟨b, o + i * 4 + 3, none⟩) hb').trans hq.2.2.2
        clear hq
        have f1 := hF i hin
        have f2 := hC i hin
        rcases List.eq_nil_or_concat acc with hnil | ⟨acc0, s0, hcat⟩
        · subst hnil
          have hv := HE.out rfl
          subst hv
          go_wp2_with fail
          go_quiet (fail)
          have OW : Hid (((wr.alloc (.cells #[.string (W i), .int .i64 (I i), .int .i64 (F i), .int .i64 (C i)] 29)).drewN nq).ownsRow w.heap.size 33 2 (.slice none 0 0) 0 (spc [])) := World.ownsRow_nil _ _ _ _
          have BW : Hid (Below w.heap.size w ((wr.alloc (.cells #[.string (W i), .int .i64 (I i), .int .i64 (F i), .int .i64 (C i)] 29)).drewN nq)) := drewNb (HB.out.alloc HB.out.size _) nq
          have cb : ((wr.alloc (.cells #[.string (W i), .int .i64 (I i), .int .i64 (F i), .int .i64 (C i)] 29)).drewN nq).cell? ⟨wr.heap.size, 2, none⟩ = some (.int .i64 (F i)) := by
            show (wr.alloc (.cells #[.string (W i), .int .i64 (I i), .int .i64 (F i), .int .i64 (C i)] 29)).cell? ⟨wr.heap.size, 2, none⟩ = _
            rw [World.cell?_alloc_new]; rfl
          generalize ((wr.alloc (.cells #[.string (W i), .int .i64 (I i), .int .i64 (F i), .int .i64 (C i)] 29)).drewN nq) = w1 at OW BW cb ⊢
          have HG : ∀ s ∈ ([] : List Sp), s.last + 1 < F i := (fun s h => by cases h)
          go_wp2_with (at_builtin; refine wpList_append_own _ rfl _ _ 51 rfl w.heap.size 33 Yba.t33 (.agg #[.int .i64 0, .int .i64 0]) 2 16 Yba.underlying51 info33 rfl rfl rfl rfl (by decide) _ _ _ rfl (OW.out.alloc _) ⟨w1.heap.size, 0, none⟩ 1 1 [.int .i64 (F i), .int .i64 (F i + (C i - 1))] rfl ?qc1 ?qc2 ?qc3 ?qc4 ?qc5 ?qc6 ?_)
          case qc1 => rfl
          case qc2 =>
            intro j u hj
            rw [Addr.add_lit, Nat.zero_add, World.cell?_alloc_new]
            simpa using hj
          case qc3 => intro u hu; simp at hu; rcases hu with rfl | rfl <;> rfl
          case qc4 => unfold maxLen; simp <;> omega
          case qc5 => simp <;> omega
          case qc6 => have := BW.out.size; simp; omega
          intro v' w2 hown hgrow hnil
          have BW2 : Hid (Below w.heap.size w w2) := (BW.out.alloc BW.out.size _).grown hgrow (by have := BW.out.size; simp; omega) (fun k hk => (OW.out.lt k hk).1)
          have OW2 : Hid (w2.ownsRow w.heap.size 33 2 v' ([] ++ [(⟨F i, F i + (C i - 1)⟩ : Sp)]).length (spc ([] ++ [(⟨F i, F i + (C i - 1)⟩ : Sp)]))) := by
            show World.ownsRow _ _ _ _ _ _ _
            rw [spc_append, List.length_append]; exact hown
          clear hown hgrow hnil OW BW
          go_wp2_with fail
          go_roundw
          case rel =>
            refine ⟨i + 1, v', [] ++ [(⟨F i, F i + (C i - 1)⟩ : Sp)], rfl, by go_num, by omega, by simp at hal ⊢ <;> omega, (fun h => by simp at h), OW2, BW2, ?_⟩
            show MergeInv _ _
            rw [List.range_succ, List.map_append, show F i + (C i - 1) = F i + C i - 1 by omega]
            exact merge_new HM.out (by omega) HG
          case measure => simp [RowKit.intOf]; omega
        · rw [List.concat_eq_append] at hcat
          subst hcat
          have hlen : (acc0 ++ [s0]).length = acc0.length + 1 := by simp
          obtain ⟨m, HMm⟩ : ∃ m, Hid (acc0.length = m) := ⟨_, rfl⟩
          rw [hlen, HMm.out] at hal
          have HO2 : Hid (wr.ownsRow w.heap.size 33 2 v (m + 1) (spc (acc0 ++ [s0]))) := by rw [← HMm.out, ← hlen]; exact HO.out
          obtain ⟨g, cap, hv⟩ := Joins.ownsRow_form HO2.out (by omega)
          subst hv
          have HA : Hid ((wr.alloc (.cells #[.string (W i), .int .i64 (I i), .int .i64 (F i), .int .i64 (C i)] 29)).ownsRow w.heap.size 33 2 (.slice (some ⟨g, 0, none⟩) (m + 1) cap) (m + 1) (spc (acc0 ++ [s0]))) := HO2.out.alloc _
          have gb := HO2.out.lt g rfl
          have cg : (wr.alloc (.cells #[.string (W i), .int .i64 (I i), .int .i64 (F i), .int .i64 (C i)] 29)).cell? ⟨g, m * 2 + 1, none⟩ = some (.int .i64 s0.last) := by
            rw [HA.out.cellAt _ (by omega), ← HMm.out, spc_last]
          have fg : (wr.alloc (.cells #[.string (W i), .int .i64 (I i), .int .i64 (F i), .int .i64 (C i)] 29)).frozen? ⟨g, m * 2 + 1, none⟩ = false := HA.out.frozenAt _
          clear hlen HO HE
          have hsi : (Hid (∀ r ∈ (List.range i).map (fun k => (F k, F k + C k - 1)), r.1 ≤ F i)) := by
            intro r hr
            obtain ⟨k, hk, rfl⟩ := List.mem_map.1 hr
            exact hs k i (List.mem_range.1 hk) hin
          go_wp2_with fail
          by_cases hj : F i - 1 ≤ s0.last
          · go_quiet (fail)
            go_wp2_with fail
            go_roundw
            case rel =>
              have ST := World.ownsRow.stored HA.out (m * 2 + 1) (.int .i64 (max s0.last (F i + (C i - 1))))
              refine ⟨i + 1, _, acc0 ++ [⟨s0.first, max s0.last (F i + (C i - 1))⟩], rfl, by go_num, by omega, by simp [HMm.out]; omega, (fun h => by simp at h), ?_, ?_, ?_⟩
              · show World.ownsRow _ _ _ _ _ _ _
                have h1 := ST.1
                rw [← HMm.out, spc_set, HMm.out] at h1
                rw [List.length_append, HMm.out]
                exact h1
              · exact (drewNb (HB.out.alloc HB.out.size _) nq).setCell (p := ⟨g, m * 2 + 1, none⟩) gb.1 _
              · show MergeInv _ _
                rw [List.range_succ, List.map_append, show F i + (C i - 1) = F i + C i - 1 by omega]
                exact merge_join HM.out (by omega) hsi.out hj
            case measure => simp [RowKit.intOf]; omega
          · go_quiet (fail)
            have OW : Hid (((wr.alloc (.cells #[.string (W i), .int .i64 (I i), .int .i64 (F i), .int .i64 (C i)] 29)).drewN nq).ownsRow w.heap.size 33 2 (.slice (some ⟨g, 0, none⟩) (m + 1) cap) (acc0 ++ [s0]).length (spc (acc0 ++ [s0]))) := by
              show World.ownsRow _ _ _ _ _ _ _
              rw [List.length_append, HMm.out]; exact HA.out
            have BW : Hid (Below w.heap.size w ((wr.alloc (.cells #[.string (W i), .int .i64 (I i), .int .i64 (F i), .int .i64 (C i)] 29)).drewN nq)) := drewNb (HB.out.alloc HB.out.size _) nq
            have cb : ((wr.alloc (.cells #[.string (W i), .int .i64 (I i), .int .i64 (F i), .int .i64 (C i)] 29)).drewN nq).cell? ⟨wr.heap.size, 2, none⟩ = some (.int .i64 (F i)) := by
              show (wr.alloc (.cells #[.string (W i), .int .i64 (I i), .int .i64 (F i), .int .i64 (C i)] 29)).cell? ⟨wr.heap.size, 2, none⟩ = _
              rw [World.cell?_alloc_new]; rfl
            clear HA cg fg
            generalize ((wr.alloc (.cells #[.string (W i), .int .i64 (I i), .int .i64 (F i), .int .i64 (C i)] 29)).drewN nq) = w1 at OW BW cb ⊢
            have hal2 : acc0.length + 1 ≤ i := by rw [HMm.out]; exact hal
            have HG : ∀ s ∈ acc0 ++ [s0], s.last + 1 < F i := by
              intro s hs2
              obtain ⟨n1, n2, n3⟩ := HM.out.nf.init
              rcases List.mem_append.1 hs2 with h3 | h3
              · have := n2 s h3; omega
              · simp at h3; subst h3; omega
            go_wp2_with (at_builtin; refine wpList_append_own _ rfl _ _ 51 rfl w.heap.size 33 Yba.t33 (.agg #[.int .i64 0, .int .i64 0]) 2 16 Yba.underlying51 info33 rfl rfl rfl rfl (by decide) _ _ _ rfl (OW.out.alloc _) ⟨w1.heap.size, 0, none⟩ 1 1 [.int .i64 (F i), .int .i64 (F i + (C i - 1))] rfl ?qc1 ?qc2 ?qc3 ?qc4 ?qc5 ?qc6 ?_)
            case qc3 => exact ⟨rfl, rfl⟩
            case qc4 => unfold maxLen; omega
            case qc5 => omega
            case qc6 => have := BW.out.size; simp; omega
            intro v' w2 hown hgrow hnil
            have BW2 : Hid (Below w.heap.size w w2) := (BW.out.alloc BW.out.size _).grown hgrow (by have := BW.out.size; simp; omega) (fun k hk => (OW.out.lt k hk).1)
            have OW2 : Hid (w2.ownsRow w.heap.size 33 2 v' ((acc0 ++ [s0]) ++ [(⟨F i, F i + (C i - 1)⟩ : Sp)]).length (spc ((acc0 ++ [s0]) ++ [(⟨F i, F i + (C i - 1)⟩ : Sp)]))) := by
              show World.ownsRow _ _ _ _ _ _ _
              rw [spc_append, List.length_append, List.length_append]; exact hown
            clear hown hgrow hnil OW BW
            go_wp2_with fail
            go_roundw
            case rel =>
              refine ⟨i + 1, v', (acc0 ++ [s0]) ++ [(⟨F i, F i + (C i - 1)⟩ : Sp)], rfl, by go_num, by omega, by simp <;> omega, (fun h => by simp at h), OW2, BW2, ?_⟩
              show MergeInv _ _
              rw [List.range_succ, List.map_append, show F i + (C i - 1) = F i + C i - 1 by omega]
              exact merge_new HM.out (by omega) HG
            case measure => simp [RowKit.intOf]; omega
      · go_wp2_with fail
        go_ret
        obtain rfl : i = n := by omega
        exact ⟨_, acc, rfl, HO.out, HB.out, HM.out, HE.out, hal⟩

end Go.Proofs.Ybulkebla
