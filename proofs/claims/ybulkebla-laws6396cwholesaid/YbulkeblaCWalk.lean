import Derived.Test.YbulkeblaSort
/-! LawS6396CWhole (5). -/
namespace Go.Proofs.Ybulkebla
open Go.RowKit Go.Lib
set_option linter.unusedVariables false

/-- What stands ahead of the count: two sorted rows, and a copy of each. -/
structure Four (w : World) (A1 A2 A3 A4 : Option Addr) (n m : Nat) (f g : Nat → Int) : Prop where
  r1 : IRow w.heap.size w A1 n f
  r2 : IRow w.heap.size w A2 m g
  r3 : IRow w.heap.size w A3 n f
  r4 : IRow w.heap.size w A4 m g
  sf : Asc n f
  sg : Asc m g

theorem Fresh.row {B : Nat} {w : World} {a : Option Addr} {n : Nat} {f : Nat → Int} (h : Fresh B w a n f) : IRow w.heap.size w a n f := by
  rcases h with h | ⟨g, h1, h2, h3, h4, _⟩
  · exact .inl h
  · exact .inr ⟨g, 0, h1, h3, h4⟩
theorem IRow.next {w w' : World} {a : Option Addr} {n : Nat} {f : Nat → Int} (h : IRow w.heap.size w a n f) (k : Below w.heap.size w w') : IRow w'.heap.size w' a n f := (h.below k).up k.size
theorem IRow.open' {B : Nat} {w : World} {a : Option Addr} {n : Nat} {f : Nat → Int} (h : IRow B w a n f) : n = 0 ∨ ∃ ad : Addr, a = some ad ∧ ∀ j, j < n → w.cell? (ad.add j) = some (.int .i32 (f j)) := by
  rcases h with h | ⟨b, o, h1, _, h3⟩
  · exact .inl h
  · exact .inr ⟨_, h1, fun j hj => by rw [Addr.add_lit]; exact h3 j hj⟩

set_option maxHeartbeats 1000000 in
set_option maxRecDepth 100000 in
theorem lawLong (a0 a1 : Option Addr) (n c0 m c1 : Nat) (w : World) (h : 4096 < n ∨ 4096 < m) :
    Calls Yba.prog 5 #[.slice a0 n c0, .slice a1 m c1] w fun e w' => e = .returned (.bool true) ∧ w' = w := by
  by_cases h1 : 4096 < n
  · go_enter Yba.func5, Yba.ntmps5
    go_wp2_with fail
    go_ret
    exact ⟨rfl, rfl⟩
  · have h2 : 4096 < m := h.resolve_left h1
    clear h
    go_enter Yba.func5, Yba.ntmps5
    go_wp2_with fail
    go_ret
    exact ⟨rfl, rfl⟩

set_option maxHeartbeats 4000000 in
set_option maxRecDepth 100000 in
theorem lawShort (a0 a1 : Option Addr) (n c0 m c1 : Nat) (f g : Nat → Int) (w : World) (hn : n ≤ 4096) (hm : m ≤ 4096)
    (h0 : n = 0 ∨ ∃ ad : Addr, a0 = some ad ∧ ∀ j, j < n → w.cell? (ad.add j) = some (.int .i32 (f j))) (h1 : IRow w.heap.size w a1 m g) :
    Calls Yba.prog 5 #[.slice a0 n c0, .slice a1 m c1] w fun e w' => e = .returned (.bool true) ∧ Below w.heap.size w w' := by
  have H0 : Hid (n = 0 ∨ ∃ ad : Addr, a0 = some ad ∧ ∀ j, j < n → w.cell? (ad.add j) = some (.int .i32 (f j))) := h0
  have H1 : Hid (IRow w.heap.size w a1 m g) := h1
  clear h0 h1
  obtain ⟨B, HB⟩ : ∃ B, Hid (w.heap.size = B) := ⟨_, rfl⟩
  rw [HB.out]
  rw [HB.out] at H1
  go_enter Yba.func5, Yba.ntmps5
  go_wp2_with fail
  refine (clone a0 n c0 f w hn H0.out).mono ?_
  rintro e w1 ⟨A1, C1, rfl, hC1, F1, B1⟩
  rw [HB.out] at F1 B1
  have F1 : Hid _ := F1
  have B1 : Hid (Below B w w1) := B1
  have s1 : B ≤ w1.heap.size := by rw [← HB.out]; exact B1.out.size
  go_wp2_with fail
  refine (sort B A1 C1 n f w1 hn s1 F1.out).mono ?_
  rintro e w2 ⟨rfl, f', sf, R2, B2⟩
  have SF : Hid _ := sf
  have R2 : Hid (IRow w2.heap.size w2 A1 n f') := R2
  have B2 : Hid (Below B w w2) := B1.out.trans B2
  clear sf F1
  have G1 : Hid _ := (H1.out.below B2.out).open'
  go_wp2_with fail
  refine (clone a1 m c1 g w2 hm G1.out).mono ?_
  rintro e w3 ⟨A2, C2, rfl, hC2, F3, B3⟩
  obtain ⟨D, HD⟩ : ∃ D, Hid (w2.heap.size = D) := ⟨_, rfl⟩
  rw [HD.out] at F3 B3
  have F3 : Hid _ := F3
  have B3 : Hid (Below D w2 w3) := B3
  have s3 : D ≤ w3.heap.size := by rw [← HD.out]; exact B3.out.size
  have sBD : B ≤ D := by rw [← HD.out, ← HB.out]; exact B2.out.size
  go_wp2_with fail
  refine (sort D A2 C2 m g w3 hm s3 F3.out).mono ?_
  rintro e w4 ⟨rfl, g', sg, R4, B4⟩
  have SG : Hid _ := sg
  have R4 : Hid (IRow w4.heap.size w4 A2 m g') := R4
  have B24 : Hid (Below D w2 w4) := B3.out.trans B4
  clear sg F3 B4
  have R2 : Hid (IRow w4.heap.size w4 A1 n f') := R2.out.next (by rw [HD.out]; exact B24.out)
  have G2 : Hid _ := R2.out.open'
  go_wp2_with fail
  refine (clone A1 n C1 f' w4 hn G2.out).mono ?_
  rintro e w5 ⟨A3, C3, rfl, hC3, F5, B5⟩
  have F5 : Hid (IRow w5.heap.size w5 A3 n f') := F5.row
  have B5 : Hid (Below w4.heap.size w4 w5) := B5
  have G3 : Hid _ := (R4.out.next B5.out).open'
  go_wp2_with fail
  refine (clone A2 m C2 g' w5 hm G3.out).mono ?_
  rintro e w6 ⟨A4, C4, rfl, hC4, F6, B6⟩
  have FO : Hid (Four w6 A1 A2 A3 A4 n m f' g') := ⟨(R2.out.next B5.out).next B6, (R4.out.next B5.out).next B6, F5.out.next B6, F6.row, SF.out, SG.out⟩
  have BE : Hid (Below B w w6) := by
    have s4 : D ≤ w4.heap.size := by rw [← HD.out]; exact B24.out.size
    exact ((B2.out.trans (B24.out.mono sBD)).trans (B5.out.mono (by omega))).trans (B6.mono (by have := B5.out.size; omega))
  clear F6 B6 F5 B5 G3 G2 R2 R4 B24 SG SF B3 B2 B1 G1 H0 H1 HB HD s1 s3 sBD
  go_wp2_with fail
  refine (count w6.heap.size n m A1 A2 C1 C2 f' g' w6 hn hm FO.out.r1 FO.out.r2 FO.out.sf FO.out.sg).mono ?_
  rintro e w7 ⟨rfl, hw7⟩
  subst w7
  obtain ⟨b3, o3, E3, H3⟩ : ∃ b o, Hid (n = 0 ∨ A3 = some ⟨b, o, none⟩) ∧ Hid (∀ k, k < n → w6.cell? ⟨b, o + k, none⟩ = some (.int .i32 (f' k))) := by
    rcases FO.out.r3 with h | ⟨b, o, h, _, hc⟩
    · exact ⟨0, 0, .inl h, fun k hk => by omega⟩
    · exact ⟨b, o, .inr h, hc⟩
  obtain ⟨cc, HCC⟩ : ∃ cc, Hid (cnt m f' g' n = cc) := ⟨_, rfl⟩
  rw [HCC.out]
  go_wp2_with fail
  go_loop [10, 11] (fun v10 v11 => ∃ (c i : Nat), v10 = .int .i64 c ∧ v11 = .int .i64 i ∧ i ≤ n ∧ c ≤ i ∧ Hid (c = cnt m f' g' i)) (fun v10 v11 => n - (RowKit.intOf v11).toNat)
  case atStart => exact ⟨0, 0, rfl, rfl, by omega, by omega, rfl⟩
  case round =>
    obtain ⟨c, i, rfl, rfl, hi, hci, HC⟩ := hrel
    by_cases hin : i < n
    · have e3 : A3 = some ⟨b3, o3, none⟩ := E3.out.resolve_left (by omega)
      subst e3
      have hc3 := H3.out i hin
      go_wp2_with fail
      refine (isIn w6.heap.size m A4 C4 g' (f' i) w6 hm FO.out.r4).mono ?_
      rintro e w7 ⟨rfl, hw7⟩
      subst w7
      by_cases hmem : mem m g' (f' i) = true
      · have CC : Hid (c = cnt m f' g' (i + 1)) := by show _ = _; rw [cnt, hmem, ← HC.out]; rfl
        go_wp2_with fail
        go_round
        case rel => exact ⟨c, i + 1, rfl, by go_num, by omega, by omega, CC⟩
        case measure => simp [RowKit.intOf]; omega
      · have hmem2 : mem m g' (f' i) = false := by simpa using hmem
        have CC : Hid (c + 1 = cnt m f' g' (i + 1)) := by show _ = _; rw [cnt, hmem2, ← HC.out]; rfl
        clear hmem
        go_wp2_with fail
        go_round
        case rel => exact ⟨c + 1, i + 1, by go_num, by go_num, by omega, by omega, CC⟩
        case measure => simp [RowKit.intOf]; omega
    · obtain rfl : c = cc := by rw [← HCC.out, HC.out]; congr 1; omega
      go_wp2_with fail
      refine (equal w6.heap.size n A1 A3 C1 C3 f' w6 hn FO.out.r1 FO.out.r3).mono ?_
      rintro e w7 ⟨rfl, q, hw7⟩
      have R2' : Hid (IRow w6.heap.size w7 A2 m g') := FO.out.r2.below (by rw [hw7]; exact drewN_below (Below.refl _ _) q)
      have R4' : Hid (IRow w6.heap.size w7 A4 m g') := FO.out.r4.below (by rw [hw7]; exact drewN_below (Below.refl _ _) q)
      have BE2 : Hid (Below B w w7) := by rw [hw7]; exact drewN_below BE.out q
      clear hw7
      go_wp2_with fail
      refine (equal w6.heap.size m A2 A4 C2 C4 g' w7 hm R2'.out R4'.out).mono ?_
      rintro e w8 ⟨rfl, q2, hw8⟩
      have BE3 : Hid (Below B w w8) := by rw [hw8]; exact drewN_below BE2.out q2
      clear hw8
      go_wp2_with fail
      go_ret
      exact ⟨rfl, BE3.out⟩

end Go.Proofs.Ybulkebla
