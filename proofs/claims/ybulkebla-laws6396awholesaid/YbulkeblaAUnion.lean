import Derived.Test.YbulkeblaAMerge
import Derived.Deep.CutBlock
import Derived.Deep.DeepCutAuto
/-! zzs6396aunion (13). -/
namespace Go.Proofs.Ybulkebla
open Go.RowKit Go.Lib
set_option linter.unusedVariables false

/-- The bitmap at block mb. -/
def MK (w : World) (mb : Nat) (M : Nat → Bool) : Prop := ∀ t, t < 65600 → w.cell? ⟨mb, t, none⟩ = some (.bool (M t)) ∧ w.frozen? ⟨mb, t, none⟩ = false ∧ ∃ cur, w.heap[mb]? = some (.cells cur 4 (0, 0)) ∧ cur.size = 65600

theorem MK.kept {w w' : World} {mb : Nat} {M : Nat → Bool} (h : MK w mb M) (hb : w'.heap[mb]? = w.heap[mb]?) : MK w' mb M :=
  fun t ht => ⟨by rw [World.cell?_of_block (w := w) hb]; exact (h t ht).1, by rw [World.frozen?_of_block (w := w) hb]; exact (h t ht).2.1, by rw [hb]; exact (h t ht).2.2⟩
theorem MK.lt {w : World} {mb : Nat} {M : Nat → Bool} (h : MK w mb M) : mb < w.heap.size := by
  have := (h 0 (by omega)).1
  unfold World.cell? at this
  split at this
  · rename_i c e fz hb; exact (Array.getElem?_eq_some_iff.1 hb).1
  · cases this
theorem MK.alloc {w : World} {mb : Nat} {M : Nat → Bool} (h : MK w mb M) (o : Obj) : MK (w.alloc o) mb M := h.kept (Below.heap_alloc _ _ _ h.lt)
theorem MK.set {w : World} {mb : Nat} {M : Nat → Bool} (h : MK w mb M) (t0 : Nat) (u : Bool) : MK (w.setCell ⟨mb, t0, none⟩ (.bool u)) mb (fun t => if t = t0 then u else M t) := by
  intro t ht
  refine ⟨?_, by rw [World.frozen?_setCell]; exact (h t ht).2.1, ?_⟩
  rotate_left
  · obtain ⟨cur, h1, h2⟩ := (h t ht).2.2
    refine ⟨cur.setIfInBounds t0 (.bool u), ?_, by simp [h2]⟩
    show (w.heap.modify mb _)[mb]? = _
    rw [Array.getElem?_modify, if_pos rfl, h1]; rfl
  by_cases e : t = t0
  · subst e
    simp only [if_true]
    exact World.cell?_setCell_same' w ⟨mb, t, none⟩ (.bool u) (by rw [(h t ht).1]; rfl)
  · simp only [if_neg e]
    rw [World.cell?_setCell_other _ _ _ _ (by intro e2; cases e2; exact e rfl)]
    exact (h t ht).1

/-- All but block mb stands as it was. -/
theorem gb_alloc {w w' : World} {r : Option Nat} (h : w.grownBy w' r) (o : Obj) : w.grownBy (w'.alloc o) r :=
  ⟨h.os, h.tape, h.output, by have := h.size; simp; omega, fun i hi hne => by rw [Below.heap_alloc _ _ _ (by have := h.size; omega)]; exact h.block i hi hne⟩
theorem gb_set {w w' : World} {mb : Nat} (h : w.grownBy w' (some mb)) (t : Nat) (u : Value) : w.grownBy (w'.setCell ⟨mb, t, none⟩ u) (some mb) :=
  ⟨h.os, h.tape, h.output, by have := h.size; simp [World.setCell]; omega, fun i hi hne => by rw [Below.heap_setCell _ _ _ _ (by intro e; exact hne (by rw [e]))]; exact h.block i hi hne⟩
theorem gb_refl (w : World) (r : Option Nat) : w.grownBy w r := ⟨rfl, rfl, rfl, Nat.le_refl _, fun _ _ _ => rfl⟩
theorem gb_drewN {w w' : World} {r : Option Nat} (h : w.grownBy w' r) (q : Nat) : w.grownBy (w'.drewN q) r := ⟨h.os, h.tape, h.output, h.size, h.block⟩
theorem gb_cell {w w' : World} {mb : Nat} (h : w.grownBy w' (some mb)) {p : Addr} (h1 : p.block < w.heap.size) (h2 : p.block ≠ mb) : w'.cell? p = w.cell? p :=
  World.cell?_of_block (w := w) (h.block p.block h1 (fun e => h2 (by injection e)))

theorem gb_step {w w1 w2 : World} {mb : Nat} {r : Option Nat} (h : w.grownBy w1 (some mb)) (k : w1.grownBy w2 r) (hr : ∀ j, r = some j → w.heap.size ≤ j) : w.grownBy w2 (some mb) :=
  ⟨k.os.trans h.os, k.tape.trans h.tape, k.output.trans h.output, Nat.le_trans h.size k.size, fun i hi hne =>
    (k.block i (Nat.lt_of_lt_of_le hi h.size) (fun e => by have := hr i e.symm; omega)).trans (h.block i hi hne)⟩
theorem MK.lt0 {w w' : World} {mb : Nat} {M : Nat → Bool} (h : MK w' mb M) (hg : w.grownBy w' (some mb)) : mb < w'.heap.size := h.lt

theorem mix (a : Int) (h : -32770 ≤ a) (t : Nat) : t = (a + 32770).toNat ↔ (t : Int) - 32770 = a := by omega

set_option maxHeartbeats 4000000 in
set_option maxRecDepth 100000 in
theorem union (B n c mb : Nat) (a : Option Addr) (W : Nat → ByteArray) (I F C : Nat → Int) (w : World) (hn : n ≤ 24576) (hB : B ≤ w.heap.size) (h : RRow B w a n W I F C) (hne : ∀ x, a = some x → x.block ≠ mb)
    (hM : MK w mb (fun _ => false)) (hF : ∀ k, k < n → -32768 ≤ F k ∧ F k ≤ 32767) (hC : ∀ k, k < n → 1 ≤ C k ∧ C k ≤ 16) (hn0 : 0 < n) :
    Calls Yba.prog 13 #[.slice a n c, .slice (some ⟨mb, 0, none⟩) 65600 65600] w fun e w' => ∃ v acc lo hi, e = .returned (.tuple #[v, .int .i64 (tot acc)]) ∧ w'.ownsRow w.heap.size 33 2 v acc.length (spc acc) ∧
      w.grownBy w' (some mb) ∧ MK w' mb (fun _ => false) ∧ ScanInv (fun x => ∃ k, k < n ∧ F k ≤ x ∧ x ≤ F k + C k - 1) lo (hi + 1) acc ∧ (∀ k, k < n → lo ≤ F k ∧ F k + C k - 1 ≤ hi) ∧ (acc = [] → v = .slice none 0 0) := by
  rcases h with h | ⟨b, o, rfl, l, h⟩
  · omega
  have hbm : b ≠ mb := hne _ rfl
  clear hne
  have H : Hid (∀ k, k < n → w.cell? ⟨b, o + k * 4, none⟩ = some (.string (W k)) ∧ w.cell? ⟨b, o + k * 4 + 1, none⟩ = some (.int .i64 (I k)) ∧
      w.cell? ⟨b, o + k * 4 + 2, none⟩ = some (.int .i64 (F k)) ∧ w.cell? ⟨b, o + k * 4 + 3, none⟩ = some (.int .i64 (C k))) := h
  have c2 : w.cell? ⟨b, o + 2, none⟩ = some (.int .i64 (F 0)) := by have := (h 0 hn0).2.2.1; simpa using this
  have c3 : w.cell? ⟨b, o + 3, none⟩ = some (.int .i64 (C 0)) := by have := (h 0 hn0).2.2.2; simpa using this
  have HM : Hid (MK w mb (fun _ => false)) := hM
  have mbs : mb < w.heap.size := hM.lt
  clear h hM
  have f0 := hF 0 hn0
  have g0 := hC 0 hn0
  have hnz : ((n : Int) == 0) = false := by simp; omega
  go_enter Yba.func13, Yba.ntmps13
  go_wp2_with fail
  go_quiet (fail)
  have HM1 : Hid (MK (w.drewN nq) mb (fun _ => false)) := HM.out
  have G1 : Hid (w.grownBy (w.drewN nq) (some mb)) := gb_drewN (gb_refl _ _) nq
  clear HM c2 c3
  generalize w.drewN nq = w1 at HM1 G1 ⊢
  go_wp2_with fail
  go_loopw [6, 7, 35] (fun v6 v7 v35 wr => ∃ (i : Nat) (lo hi : Int) (M : Nat → Bool), v6 = .int .i64 lo ∧ v7 = .int .i64 hi ∧ v35 = .int .i64 i ∧ i ≤ n ∧ -32768 ≤ lo ∧ hi ≤ 32782 ∧ lo ≤ hi ∧
    Hid (∀ k, k < i → lo ≤ F k ∧ F k + C k - 1 ≤ hi) ∧ Hid (MK wr mb M) ∧ Hid (∀ t : Nat, t < 65600 → (M t = true ↔ ∃ k, k < i ∧ F k ≤ (t : Int) - 32770 ∧ (t : Int) - 32770 ≤ F k + C k - 1)) ∧ Hid (w.grownBy wr (some mb)))
    (fun _ _ v35 _ => n - (RowKit.intOf v35).toNat)
  case atStart => exact ⟨0, F 0, F 0 + C 0 - 1, fun _ => false, rfl, rfl, rfl, by omega, by omega, by omega, by omega, fun k hk => by omega, HM1, fun t ht => by simp, G1⟩
  case round =>
    obtain ⟨i, lo, hi, M, rfl, rfl, rfl, hi1, hlo, hhi, hlh, HK, HM, HT, HG⟩ := hrel
    by_cases hin : i < n
    · have hq := H.out i hin
      have hbs : b < w.heap.size := by omega
      have c0 : wr.cell? ⟨b, o + i * 4, none⟩ = some (.string (W i)) := (gb_cell HG.out (p := ⟨b, o + i * 4, none⟩) hbs hbm).trans hq.1
      have c1 : wr.cell? ⟨b, o + i * 4 + 1, none⟩ = some (.int .i64 (I i)) := (gb_cell HG.out (p := ⟨b, o + i * 4 + 1, none⟩) hbs hbm).trans hq.2.1
      have c2 : wr.cell? ⟨b, o + i * 4 + 2, none⟩ = some (.int .i64 (F i)) := (gb_cell HG.out (p := ⟨b, o + i * 4 + 2, none⟩) hbs hbm).trans hq.2.2.1
      have c3 : wr.cell? ⟨b, o + i * 4 + 3, none⟩ = some (.int .i64 (C i)) := (gb_cell HG.out (p := ⟨b, o + i * 4 + 3, none⟩) hbs hbm).trans hq.2.2.2
      clear hq
      have f1 := hF i hin
      have f2 := hC i hin
      go_upto_if 48 with fail
      have HM2 : Hid (MK (wr.alloc (.cells #[.string (W i), .int .i64 (I i), .int .i64 (F i), .int .i64 (C i)] 29)) mb M) := HM.out.alloc _
      have HG2 : Hid (w.grownBy (wr.alloc (.cells #[.string (W i), .int .i64 (I i), .int .i64 (F i), .int .i64 (C i)] 29)) (some mb)) := gb_alloc HG.out _
      have cb2 : (wr.alloc (.cells #[.string (W i), .int .i64 (I i), .int .i64 (F i), .int .i64 (C i)] 29)).cell? ⟨wr.heap.size, 2, none⟩ = some (.int .i64 (F i)) := by rw [World.cell?_alloc_new]; rfl
      clear HM HG c0 c1 c2 c3
      generalize (wr.alloc (.cells #[.string (W i), .int .i64 (I i), .int .i64 (F i), .int .i64 (C i)] 29)) = w2 at HM2 HG2 cb2 ⊢
      go_cut [6] (fun v6 wx => ∃ lo' : Int, v6 = .int .i64 lo' ∧ lo' ≤ lo ∧ lo' ≤ F i ∧ -32768 ≤ lo' ∧ Hid (wx = w2))
      case first =>
        by_cases hl : F i < lo
        · go_wp2_with fail
          go_meet
          case rel => exact ⟨F i, rfl, by omega, by omega, by omega, rfl⟩
        · go_wp2_with fail
          go_meet
          case rel => exact ⟨lo, rfl, by omega, by omega, by omega, rfl⟩
      case rest =>
        obtain ⟨lo', rfl, l1, l2, l3, HW⟩ := hcut
        have hw : wc = w2 := HW.out
        subst hw
        clear HW
        go_upto_if 53 with fail
        go_cut [7] (fun v7 wx => ∃ hi' : Int, v7 = .int .i64 hi' ∧ hi ≤ hi' ∧ F i + C i - 1 ≤ hi' ∧ hi' ≤ 32782 ∧ Hid (wx = wc))
        case first =>
          by_cases hl : hi < F i + C i - 1
          · go_wp2_with fail
            go_meet
            case rel => exact ⟨F i + C i - 1, rfl, by omega, by omega, by omega, rfl⟩
          · go_wp2_with fail
            go_meet
            case rel => exact ⟨hi, rfl, by omega, by omega, by omega, rfl⟩
        case rest =>
          obtain ⟨hi', rfl, l4, l5, l6, HW⟩ := hcut
          have hw := HW.out
          subst hw
          clear HW
          go_wp2_with fail
          go_loopw [11] (fun v11 wr => ∃ (y : Nat) (M2 : Nat → Bool), v11 = .int .i64 ((y : Int) - 32770) ∧ F i + 32770 ≤ y ∧ (y : Int) ≤ F i + C i + 32770 ∧ Hid (MK wr mb M2) ∧ Hid (w.grownBy wr (some mb)) ∧
            Hid (∀ t : Nat, t < 65600 → (M2 t = true ↔ (∃ k, k < i ∧ F k ≤ (t : Int) - 32770 ∧ (t : Int) - 32770 ≤ F k + C k - 1) ∨ (F i ≤ (t : Int) - 32770 ∧ t < y)))) (fun v11 _ => (F i + C i - RowKit.intOf v11).toNat)
          case atStart => exact ⟨(F i + 32770).toNat, M, by congr 1; omega, by omega, by omega, HM2, HG2, fun t ht => by
            rw [HT.out t ht]
            constructor
            · exact .inl
            · rintro (h | h)
              · exact h
              · omega⟩
          case round =>
            obtain ⟨y, M2, rfl, hy1, hy2, HM3, HG3, HT3⟩ := hrel
            have hyy : (y : Int) - 32770 + 32770 = (y : Int) := by omega
            have hcy := (HM3.out y (by omega)).1
            have hfy := (HM3.out y (by omega)).2
            by_cases hle : (y : Int) - 32770 ≤ F i + C i - 1
            · go_wp2_with fail
              go_roundw
              case rel =>
                refine ⟨y + 1, fun t => if t = y then true else M2 t, by congr 1; omega, by omega, by omega, HM3.out.set y true, gb_set HG3.out _ _, ?_⟩
                intro t ht
                by_cases e : t = y
                · simp only [e, if_true, true_iff]; right; omega
                · simp only [if_neg e]
                  rw [HT3.out t ht]
                  constructor
                  · rintro (h | h)
                    · exact .inl h
                    · exact .inr ⟨h.1, by omega⟩
                  · rintro (h | h)
                    · exact .inl h
                    · exact .inr ⟨h.1, by omega⟩
              case measure => simp [RowKit.intOf]; omega
            · go_wp2_with fail
              go_roundw
              case measure => simp [RowKit.intOf]; omega
              case rel =>
                refine ⟨i + 1, lo', hi', M2, rfl, rfl, by go_num, by omega, by omega, by omega, by omega, ?_, HM3, ?_, HG3⟩
                · intro k hk
                  by_cases e : k = i
                  · rw [e]; exact ⟨l2, l5⟩
                  · have := HK.out k (by omega); omega
                intro t ht
                rw [HT3.out t ht]
                constructor
                · rintro (⟨k, h1, h2⟩ | h)
                  · exact ⟨k, by omega, h2⟩
                  · exact ⟨i, by omega, h.1, by omega⟩
                · rintro ⟨k, h1, h2⟩
                  by_cases e : k = i
                  · subst e; exact .inr ⟨h2.1, by omega⟩
                  · exact .inl ⟨k, by omega, h2⟩
    · obtain rfl : i = n := by omega
      have HT2 : Hid (∀ y : Nat, y < 65600 → (M y = true ↔ ∃ k, k < i ∧ F k ≤ (y : Int) - 32770 ∧ (y : Int) - 32770 ≤ F k + C k - 1)) := HT
      go_wp2_with fail
      go_loopw [12, 13, 14] (fun v12 v13 v14 wr2 => ∃ (y : Nat) (v : Value) (acc : List Sp), v12 = v ∧ v13 = .int .i64 (tot acc) ∧ v14 = .int .i64 ((y : Int) - 32770) ∧ lo + 32770 ≤ y ∧ (y : Int) ≤ hi + 32771 ∧ acc.length ≤ y ∧ 0 ≤ tot acc ∧ tot acc ≤ y ∧
        Hid (acc = [] → v = .slice none 0 0) ∧ Hid (wr2.ownsRow w.heap.size 33 2 v acc.length (spc acc)) ∧ Hid (w.grownBy wr2 (some mb)) ∧ Hid (MK wr2 mb M) ∧
        Hid (ScanInv (fun x => ∃ k, k < i ∧ F k ≤ x ∧ x ≤ F k + C k - 1) lo ((y : Int) - 32770) acc)) (fun _ _ v14 _ => (hi + 1 - RowKit.intOf v14).toNat)
      case atStart =>
        refine ⟨(lo + 32770).toNat, _, [], rfl, rfl, by congr 1; omega, by omega, by omega, by simp, by simp [tot], by simp [tot] <;> omega, fun _ => rfl, World.ownsRow_nil _ _ _ _, HG, HM, ?_⟩
        rw [show (((lo + 32770).toNat : Nat) : Int) - 32770 = lo by omega]
        exact scan_start
      case round =>
        obtain ⟨y, v, acc, hv, rfl, rfl, hy1, hy2, hal, ht0, ht1, HE, HO, HG, HM, HS⟩ := hrel
        have hv2 := hv.symm
        clear hv
        subst hv2
        by_cases hle : (y : Int) - 32770 ≤ hi
        · have hyy : (y : Int) - 32770 + 32770 = (y : Int) := by omega
          have hyz : (y : Int) - 32770 - 1 + 32770 = ((y - 1 : Nat) : Int) := by omega
          have hcy := (HM.out y (by omega)).1
          have hcz := (HM.out (y - 1) (by omega)).1
          have hmy : M y = true ↔ ∃ k, k < i ∧ F k ≤ (y : Int) - 32770 ∧ (y : Int) - 32770 ≤ F k + C k - 1 := HT2.out y (by omega)
          have hmz : M (y - 1) = true ↔ ∃ k, k < i ∧ F k ≤ (y : Int) - 32770 - 1 ∧ (y : Int) - 32770 - 1 ≤ F k + C k - 1 := by
            have := HT2.out (y - 1) (by omega)
            rw [show (((y - 1 : Nat) : Int) - 32770) = (y : Int) - 32770 - 1 by omega] at this
            exact this
          have HMY : Hid (M y = true ↔ ∃ k, k < i ∧ F k ≤ (y : Int) - 32770 ∧ (y : Int) - 32770 ≤ F k + C k - 1) := hmy
          have HMZ : Hid (M (y - 1) = true ↔ ∃ k, k < i ∧ F k ≤ (y : Int) - 32770 - 1 ∧ (y : Int) - 32770 - 1 ≤ F k + C k - 1) := hmz
          clear hmy hmz
          have hnx : ((y + 1 : Nat) : Int) - 32770 = (y : Int) - 32770 + 1 := by omega
          cases hby : M y with
          | false =>
            rw [hby] at hcy
            have HN : Hid (¬ ∃ k, k < i ∧ F k ≤ (y : Int) - 32770 ∧ (y : Int) - 32770 ≤ F k + C k - 1) := fun h => by
              have := HMY.out.2 h; rw [hby] at this; cases this
            go_wp2_with fail
            go_roundw
            case rel =>
              refine ⟨y + 1, v, acc, rfl, rfl, by congr 1; omega, by omega, by omega, by omega, by omega, by omega, HE, HO, HG, HM, ?_⟩
              rw [hnx]; exact scan_skip HS.out HN.out
            case measure => simp [RowKit.intOf]; omega
          | true =>
            rw [hby] at hcy
            have HY : Hid (∃ k, k < i ∧ F k ≤ (y : Int) - 32770 ∧ (y : Int) - 32770 ≤ F k + C k - 1) := HMY.out.1 hby
            cases hbz : M (y - 1) with
            | false =>
              rw [hbz] at hcz
              have HN : Hid (¬ ∃ k, k < i ∧ F k ≤ (y : Int) - 32770 - 1 ∧ (y : Int) - 32770 - 1 ≤ F k + C k - 1) := fun h => by
                have := HMZ.out.2 h; rw [hbz] at this; cases this
              go_wp2_with (at_builtin; refine wpList_append_own _ rfl _ _ 51 rfl w.heap.size 33 Yba.t33 (.agg #[.int .i64 0, .int .i64 0]) 2 16 Yba.underlying51 info33 rfl rfl rfl rfl (by decide) _ _ _ rfl (HO.out.alloc _) ⟨wr.heap.size, 0, none⟩ 1 1 [.int .i64 ((y : Int) - 32770), .int .i64 ((y : Int) - 32770)] rfl ?qc1 ?qc2 ?qc3 ?qc4 ?qc5 ?qc6 ?_)
              case qc1 => rfl
              case qc2 =>
                intro j u hj
                rw [Addr.add_lit, Nat.zero_add, World.cell?_alloc_new]
                simpa using hj
              case qc3 => intro u hu; simp at hu; subst hu; rfl
              case qc4 => unfold maxLen; omega
              case qc5 => omega
              case qc6 => have := HG.out.size; simp; omega
              intro v' w2 hown hgrow hnil
              have OB : ∀ k, v.ownBlock = some k → w.heap.size ≤ k := fun k hk => (HO.out.lt k hk).1
              have G2 : Hid (w.grownBy w2 (some mb)) := gb_step (gb_alloc HG.out _) hgrow OB
              have M2 : Hid (MK w2 mb M) := (HM.out.alloc _).kept (hgrow.block mb (by have := HG.out.size; simp; omega) (fun e => by have := OB mb e.symm; omega))
              have O2 : Hid (w2.ownsRow w.heap.size 33 2 v' (acc ++ [(⟨(y : Int) - 32770, (y : Int) - 32770⟩ : Sp)]).length (spc (acc ++ [(⟨(y : Int) - 32770, (y : Int) - 32770⟩ : Sp)]))) := by
                show World.ownsRow _ _ _ _ _ _ _
                rw [spc_append, List.length_append]; exact hown
              have HT9 : tot (acc ++ [(⟨(y : Int) - 32770, (y : Int) - 32770⟩ : Sp)]) = tot acc + 1 := by rw [tot_append]; simp [tot]
              clear hown hgrow hnil
              go_wp2_with fail
              go_roundw
              case rel =>
                refine ⟨y + 1, v', acc ++ [(⟨(y : Int) - 32770, (y : Int) - 32770⟩ : Sp)], rfl, by rw [HT9], by congr 1; omega, by omega, by omega, by simp; omega, by rw [HT9]; omega, by rw [HT9]; omega, (fun h => by simp at h), O2, G2, M2, ?_⟩
                rw [hnx]; exact scan_new HS.out (by omega) HY.out HN.out
              case measure => simp [RowKit.intOf]; omega
            | true =>
              rw [hbz] at hcz
              have HZ : Hid (∃ k, k < i ∧ F k ≤ (y : Int) - 32770 - 1 ∧ (y : Int) - 32770 - 1 ≤ F k + C k - 1) := HMZ.out.1 hbz
              have hlx : lo < (y : Int) - 32770 := by
                obtain ⟨k, h1, h2, h3⟩ := HZ.out
                have := HK.out k h1; omega
              obtain ⟨b0, s0, hcat, hsl⟩ := HS.out.last HZ.out hlx
              subst hcat
              have HSL : Hid (s0.last = (y : Int) - 32770 - 1) := hsl
              clear hsl
              obtain ⟨m, HMm⟩ : ∃ m, Hid (b0.length = m) := ⟨_, rfl⟩
              have hlen : (b0 ++ [s0]).length = m + 1 := by rw [← HMm.out]; simp
              rw [hlen] at hal
              have HO2 : Hid (wr.ownsRow w.heap.size 33 2 v (m + 1) (spc (b0 ++ [s0]))) := by rw [← hlen]; exact HO.out
              obtain ⟨g, cap, hv⟩ := Joins.ownsRow_form HO2.out (by omega)
              subst hv
              have gb := HO2.out.lt g rfl
              have cg : wr.cell? ⟨g, m * 2 + 1, none⟩ = some (.int .i64 s0.last) := by
                rw [HO2.out.cellAt _ (by omega), ← HMm.out, spc_last]
              have fg : wr.frozen? ⟨g, m * 2 + 1, none⟩ = false := HO2.out.frozenAt _
              have HT9 : tot (b0 ++ [(⟨s0.first, (y : Int) - 32770⟩ : Sp)]) = tot (b0 ++ [s0]) + 1 := by
                rw [tot_append, tot_append]; simp only [tot]; have := HSL.out; omega
              clear hlen HO HE
              go_wp2_with fail
              go_roundw
              case rel =>
                have ST := World.ownsRow.stored HO2.out (m * 2 + 1) (.int .i64 ((y : Int) - 32770))
                refine ⟨y + 1, _, b0 ++ [(⟨s0.first, (y : Int) - 32770⟩ : Sp)], rfl, by rw [HT9], by congr 1; omega, by omega, by omega, by simp [HMm.out]; omega, by rw [HT9]; omega, by rw [HT9]; omega, (fun h => by simp at h), ?_, ?_, ?_, ?_⟩
                · show World.ownsRow _ _ _ _ _ _ _
                  have h1 := ST.1
                  rw [← HMm.out, spc_set, HMm.out] at h1
                  rw [List.length_append, HMm.out]
                  exact h1
                · exact gb_step HG.out ST.2 (fun k hk => by injection hk with hk; omega)
                · exact HM.out.kept (ST.2.block mb (by have := HG.out.size; omega) (fun e => by injection e with e; omega))
                · rw [hnx]; exact scan_more HS.out (by omega) HY.out HSL.out
              case measure => simp [RowKit.intOf]; omega
        · have hy3 : (y : Int) = hi + 32771 := by omega
          have HSE : Hid (ScanInv (fun x => ∃ k, k < i ∧ F k ≤ x ∧ x ≤ F k + C k - 1) lo (hi + 1) acc) := by
            have := HS.out
            rw [show (y : Int) - 32770 = hi + 1 by omega] at this
            exact this
          go_wp2_with fail
          go_loopw [15] (fun v15 wr3 => ∃ (z : Nat) (M2 : Nat → Bool), v15 = .int .i64 ((z : Int) - 32770) ∧ lo + 32770 ≤ z ∧ (z : Int) ≤ hi + 32771 ∧ Hid (wr3.ownsRow w.heap.size 33 2 v acc.length (spc acc)) ∧ Hid (w.grownBy wr3 (some mb)) ∧ Hid (MK wr3 mb M2) ∧
            Hid (∀ t : Nat, t < 65600 → M2 t = true → M t = true ∧ z ≤ t)) (fun v15 _ => (hi + 1 - RowKit.intOf v15).toNat)
          case atStart =>
            refine ⟨(lo + 32770).toNat, M, by congr 1; omega, by omega, by omega, HO, HG, HM, ?_⟩
            intro t ht h
            refine ⟨h, ?_⟩
            obtain ⟨k, h1, h2, h3⟩ := (HT2.out t ht).1 h
            have := HK.out k h1; omega
          case round =>
            obtain ⟨z, M2, rfl, hz1, hz2, HO, HG, HM, HZ⟩ := hrel
            by_cases hle2 : (z : Int) - 32770 ≤ hi
            · have hzz : (z : Int) - 32770 + 32770 = (z : Int) := by omega
              have hcz := (HM.out z (by omega)).1
              have hfz := (HM.out z (by omega)).2
              go_wp2_with fail
              go_roundw
              case rel =>
                refine ⟨z + 1, fun t => if t = z then false else M2 t, by congr 1; omega, by omega, by omega, ownsRow_setCell_below HO.out (a := ⟨mb, z, none⟩) mbs _, gb_set HG.out _ _, HM.out.set z false, ?_⟩
                intro t ht h
                by_cases e : t = z
                · simp [e] at h
                · simp only [if_neg e] at h
                  have := HZ.out t ht h
                  exact ⟨this.1, by omega⟩
              case measure => simp [RowKit.intOf]; omega
            · go_wp2_with fail
              go_ret2
              refine ⟨v, acc, rfl, HO.out, HG.out, ?_, lo, hi, HSE.out, HK.out, HE.out⟩
              intro t ht
              have h := HM.out t ht
              have : M2 t = false := by
                cases hb : M2 t with
                | false => rfl
                | true =>
                  have h1 := HZ.out t ht hb
                  obtain ⟨k, h2, h3, h4⟩ := (HT2.out t ht).1 h1.1
                  have := HK.out k h2; omega
              rw [this] at h
              exact h

end Go.Proofs.Ybulkebla
