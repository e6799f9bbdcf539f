import Derived.Test.YbulkeblaLib
import Derived.Deep.CutBlock
import Derived.Deep.DeepCutAuto
/-! countReached (27). -/
namespace Go.Proofs.Ybulkebla
open Go.RowKit Go.Lib
set_option linter.unusedVariables false

/-- Of the first k of f: how many are not among the m of g. -/
def cnt (m : Nat) (f g : Nat → Int) : Nat → Nat
  | 0 => 0
  | k + 1 => cnt m f g k + (if mem m g (f k) then 0 else 1)

theorem cnt_le (m : Nat) (f g : Nat → Int) : ∀ k, cnt m f g k ≤ k
  | 0 => Nat.le_refl _
  | k + 1 => by rw [cnt]; have := cnt_le m f g k; split <;> omega

def Asc (n : Nat) (f : Nat → Int) : Prop := ∀ i j, i < j → j < n → f i ≤ f j

set_option maxHeartbeats 4000000 in
set_option maxRecDepth 100000 in
theorem count (B n m : Nat) (a1 a2 : Option Addr) (c1 c2 : Nat) (f g : Nat → Int) (w : World) (hn : n ≤ 4096) (hm : m ≤ 4096) (h1 : IRow B w a1 n f) (h2 : IRow B w a2 m g) (sf : Asc n f) (sg : Asc m g) :
    Calls Yba.prog 27 #[.slice a1 n c1, .slice a2 m c2] w fun e w' => e = .returned (.int .i64 (cnt m f g n : Nat)) ∧ w' = w := by
  obtain ⟨b1, o1, E1, H1⟩ : ∃ b o, Hid (n = 0 ∨ a1 = some ⟨b, o, none⟩) ∧ Hid (∀ k, k < n → w.cell? ⟨b, o + k, none⟩ = some (.int .i32 (f k))) := by
    rcases h1 with h | ⟨b, o, h, _, hc⟩
    · exact ⟨0, 0, .inl h, fun k hk => by omega⟩
    · exact ⟨b, o, .inr h, hc⟩
  obtain ⟨b2, o2, E2, H2⟩ : ∃ b o, Hid (m = 0 ∨ a2 = some ⟨b, o, none⟩) ∧ Hid (∀ k, k < m → w.cell? ⟨b, o + k, none⟩ = some (.int .i32 (g k))) := by
    rcases h2 with h | ⟨b, o, h, _, hc⟩
    · exact ⟨0, 0, .inl h, fun k hk => by omega⟩
    · exact ⟨b, o, .inr h, hc⟩
  have SF : Hid (Asc n f) := sf
  have SG : Hid (Asc m g) := sg
  clear h1 h2 sf sg
  go_enter Yba.func27, Yba.ntmps27
  go_wp2_with fail
  go_loop [5, 6, 11] (fun v5 v6 v11 => ∃ (c j i : Nat), v5 = .int .i64 c ∧ v6 = .int .i64 j ∧ v11 = .int .i64 i ∧ i ≤ n ∧ j ≤ m ∧ c ≤ i ∧ Hid (c = cnt m f g i) ∧ Hid (∀ k, k < j → ∀ t, i ≤ t → t < n → g k < f t)) (fun v5 v6 v11 => n - (RowKit.intOf v11).toNat)
  case atStart => exact ⟨0, 0, 0, rfl, rfl, rfl, by omega, by omega, by omega, rfl, fun k hk => by omega⟩
  case round =>
    obtain ⟨c, j, i, rfl, rfl, rfl, hi, hj, hci, HC, HK⟩ := hrel
    by_cases hin : i < n
    · have e1 : a1 = some ⟨b1, o1, none⟩ := E1.out.resolve_left (by omega)
      subst e1
      have hc1 := H1.out i hin
      go_upto_block 2 with fail
      go_cut [6] (fun v6 wx => ∃ (j : Nat), v6 = .int .i64 j ∧ j ≤ m ∧ Hid (∀ k, k < j → g k < f i) ∧ Hid (j < m → f i ≤ g j) ∧ Hid (wx = w))
      case first =>
        go_wp2_with fail
        go_loop [6] (fun v6 => ∃ (j : Nat), v6 = .int .i64 j ∧ j ≤ m ∧ Hid (∀ k, k < j → g k < f i)) (fun v6 => m - (RowKit.intOf v6).toNat)
        case atStart => exact ⟨j, rfl, hj, fun k hk => HK.out k hk i (Nat.le_refl _) hin⟩
        case round =>
          obtain ⟨j, rfl, hj, HJ⟩ := hrel
          by_cases hjm : j < m
          · have e2 : a2 = some ⟨b2, o2, none⟩ := E2.out.resolve_left (by omega)
            subst e2
            have hc2 := H2.out j hjm
            by_cases hlt : g j < f i
            · have HL : Hid (g j < f i) := hlt
              go_wp2_with fail
              go_round
              case rel => exact ⟨j + 1, by go_num, by omega, fun k hk => (Nat.lt_or_ge k j).elim (HJ.out k) (fun h3 => (show k = j by omega) ▸ HL.out)⟩
              case measure => simp [RowKit.intOf]; omega
            · have HL : Hid (f i ≤ g j) := by show _ ≤ _; omega
              go_wp2_with fail
              go_meet
              case rel => exact ⟨j, rfl, hj, HJ, fun _ => HL.out, rfl⟩
          · go_wp2_with fail
            go_meet
            case rel => exact ⟨j, rfl, hj, HJ, fun h => absurd h hjm, rfl⟩
      case rest =>
        clear HK hj
        obtain ⟨j, rfl, hj, HJ, HG, HW⟩ := hcut
        have hw : wc = w := HW.out
        subst hw
        have AFT : Hid (∀ k, k < j → ∀ t, i + 1 ≤ t → t < n → g k < f t) := fun k hk t ht htn => by
          have e1 := HJ.out k hk
          have e2 := SF.out i t (by omega) htn
          omega
        by_cases hjm : j = m
        · have NM : Hid (mem m g (f i) = false) := mem_false (fun k hk => by have := HJ.out k (by omega); omega)
          have CC : Hid (c + 1 = cnt m f g (i + 1)) := by show _ = _; rw [cnt, NM.out, ← HC.out]; rfl
          subst hjm
          go_wp2_with fail
          go_round
          case rel => exact ⟨c + 1, j, i + 1, by go_num, rfl, by go_num, by omega, by omega, by omega, CC, AFT⟩
          case measure => simp [RowKit.intOf]; omega
        · have e2 : a2 = some ⟨b2, o2, none⟩ := E2.out.resolve_left (by omega)
          subst e2
          have hc2 := H2.out j (by omega)
          by_cases hq : g j = f i
          · have NM : Hid (mem m g (f i) = true) := mem_true (k := j) (by omega) hq
            have CC : Hid (c = cnt m f g (i + 1)) := by show _ = _; rw [cnt, NM.out, ← HC.out]; rfl
            have hb : (g j != f i) = false := by simp [hq]
            go_wp2_with fail
            go_round
            case rel => exact ⟨c, j, i + 1, rfl, rfl, by go_num, by omega, by omega, by omega, CC, AFT⟩
            case measure => simp [RowKit.intOf]; omega
          · have NM : Hid (mem m g (f i) = false) := mem_false (fun k hk => by
              have e0 := HG.out (by omega)
              by_cases hkj : k < j
              · have := HJ.out k hkj; omega
              · by_cases hkj2 : k = j
                · rw [hkj2]; exact hq
                · have := SG.out j k (by omega) hk; omega)
            have CC : Hid (c + 1 = cnt m f g (i + 1)) := by show _ = _; rw [cnt, NM.out, ← HC.out]; rfl
            have hb : (g j != f i) = true := by simp [hq]
            go_wp2_with fail
            go_round
            case rel => exact ⟨c + 1, j, i + 1, by go_num, rfl, by go_num, by omega, by omega, by omega, CC, AFT⟩
            case measure => simp [RowKit.intOf]; omega
    · obtain rfl : i = n := by omega
      go_wp2_with fail
      go_ret
      refine ⟨?_, rfl⟩
      rw [← HC.out]; rfl

end Go.Proofs.Ybulkebla
