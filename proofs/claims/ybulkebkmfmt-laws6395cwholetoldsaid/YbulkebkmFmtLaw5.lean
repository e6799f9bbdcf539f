import Derived.Test.YbulkebkmFmtLaw2
/-! LawS6395CWhole (function 3), the other ways. -/
namespace Go.Proofs.YbulkebkmFmt
open Go.RowKit Go.Extern.Stop Go.Stop Go.Extern
set_option linter.unusedVariables false

set_option maxRecDepth 100000 in
set_option maxHeartbeats 1600000 in
theorem law_D1n (F : Interp) (a0 : Option Addr) (len0 cap0 : Nat) (f : Nat → Int) (rep : ByteArray) (an : Option Addr) (ln cn : Nat) (g : Nat → ByteArray) (seq : Int) (w : World) (hF : F.answers w.tape) (hl : len0 ≤ 1048576) (hcap : len0 ≤ cap0) (hn : ln ≤ 1048576)
    (hc : BRow w.heap.size w a0 len0 f) (hs : SRow w.heap.size w an ln g) (hz : ∀ k : Nat, k < len0 → 0 ≤ f k ∧ f k ≤ 255)
    (h : Int) (k : Nat) (hr : rd f len0 11 0 0 0 = some (h, k)) (hh : ¬ 0 < h / 2) (q : Nat) (k2 : Nat) (hr1 : rd f len0 11 0 k 0 = some ((q : Int) + 1, k2)) (p2 : Nat) (hp2 : k + k2 = p2) (hpp : q < ln) (hr2 : rd f len0 11 0 p2 0 = none) :
    Calls Ybaf.prog 3 #[.slice a0 len0 cap0, .bool false, .string rep, .slice an ln cn, .int .u64 seq] w fun e w' => e = .returned (.bool true) ∧ Below w.heap.size w w' := by
  go_enter Ybaf.func3, Ybaf.ntmps3
  go_wp2_with fail
  refine (clone4_any _ a0 len0 cap0 f w hl hc).mono ?_
  rintro e w1 ⟨ab, cb, rfl, hcb, hbc, hb1⟩
  have hs1 := hs.below hb1
  have hc1 := hc.below hb1
  go_wp2_with fail
  refine (clone5_any _ an ln cn g w1 hn hs1).mono ?_
  rintro e w2 ⟨ab2, cb2, rfl, hcb2, hsc, hb2⟩
  have hz1 := hb1.size
  have hz2 := hb2.size
  have hc2 : BRow w2.heap.size w2 a0 len0 f := (hc1.below (hb2.mono hz1)).mono (by omega)
  have hs2 : SRow w2.heap.size w2 an ln g := (hs1.below (hb2.mono hz1)).mono (by omega)
  have hbc2 : BRow w2.heap.size w2 ab len0 f := (hbc.below hb2).mono hz2
  have hb12 : Below w.heap.size w w2 := hb1.trans (hb2.mono hz1)
  have hF2 : F.answers w2.tape := by rw [hb12.tape]; exact hF
  clear hs1 hc1 hb1 hb2 hbc hs hc hF
  go_wp2_with fail
  have hbl : Below w2.heap.size w2 (w2.alloc (.cells #[.slice a0 len0 cap0, .nilIface] 32)) := (Below.refl _ w2).alloc (Nat.le_refl _) _
  have hrd : Rdr (w2.alloc (.cells #[.slice a0 len0 cap0, .nilIface] 32)) w2.heap.size (.slice a0 len0 cap0) .nilIface := ⟨by simp, by simp, by simp, by simp, by simp⟩
  have hcl := hc2.below hbl
  have hsl := hs2.below hbl
  refine (hang_D1n w2.heap.size rep an ln cn g seq _ hn hsl a0 len0 cap0 f hl hcap hrd hcl hz h k hr (by omega) ((q : Int) + 1) k2 hr1 (by omega) (by omega) (by rw [hp2]; exact hr2)).mono ?_
  rintro e w4 ⟨v, a', er, rfl, hp, hx, hbr, he, hb4⟩
  obtain ⟨gb, rfl, hg1, hg2, hg3, hg4⟩ := hp
  rw [show ((q : Int) + 1 - 1).toNat = q from by omega] at hg3
  obtain ⟨x, rfl⟩ := he
  have hx : Rdr w4 w2.heap.size (.slice a' (len0 - (k + k2)) (cap0 - (k + k2))) _ := hx
  have hbr : BRow w2.heap.size w4 a' (len0 - (k + k2)) fun j => f (k + k2 + j) := hbr
  rw [hp2] at hx hbr
  have hk : 0 < k ∧ k ≤ len0 := by simpa using rd_le _ _ _ _ _ _ _ hr
  have hk2 : 0 < k2 ∧ k + k2 ≤ len0 := by simpa using rd_le _ _ _ _ _ _ _ hr1
  have HP : Hid (k + k2 = p2) := hp2
  have hsd : sideOf h = bits BinOp.and IntKind.u64 h 1 % 256 := sideOf_eq h
  obtain ⟨bb, bo, rfl⟩ : ∃ bb bo, ab = some ⟨bb, bo, none⟩ := by
    rcases hbc2 with h0 | ⟨bb, bo, h1, _⟩
    · omega
    · exact ⟨bb, bo, h1⟩
  obtain ⟨nb, no, rfl⟩ : ∃ nb no, ab2 = some ⟨nb, no, none⟩ := by
    rcases hsc with h0 | ⟨nb, no, h1, _⟩
    · omega
    · exact ⟨nb, no, h1⟩
  have hnc : w4.cell? ⟨nb, no + q, none⟩ = some (.string (g q)) := by
    have s4 := hsc.below ((Below.refl w2.heap.size w2).trans ((hbl.trans hb4)))
    rcases s4 with h0 | ⟨nb', no', h1, _, h2⟩
    · omega
    · cases h1; exact h2 q hpp
  have hnlt : nb < w4.heap.size := by
    have hz4' := (hbl.trans hb4).size
    rcases hsc with h0 | ⟨nb', no', h1, h2, _⟩
    · omega
    · cases h1; omega
  have hqi : (q : Int) < (ln : Int) := by omega
  clear hp2

  have hz4 := hx.sz
  have hb24 : Below w2.heap.size w2 w4 := hbl.trans hb4
  have kA0 := hc2.below hb24
  have kB0 := hbc2.below hb24
  have sA0 := hs2.below hb24
  have sB0 := hsc.below hb24
  have hlc0 := hx.c0
  have hlc1 := hx.c1
  clear hbl hrd hcl hsl hb4
  have hp2l : 0 < p2 ∧ p2 ≤ len0 := by have := HP.out; omega
  go_wp2_with fail
  refine (read_some _ _ len0 cb f 0 w4 hl (Nat.zero_le _) kB0 hz h k k hr (by omega)).mono ?_
  rintro e w5 ⟨rfl, rfl⟩
  go_wp2_with fail
  refine (read_some _ _ len0 cb f k w5 hl hk.2 kB0 hz ((q : Int) + 1) k2 p2 hr1 HP.out).mono ?_
  rintro e w4 ⟨rfl, rfl⟩
  go_wp2_with fail
  refine (read_none _ _ len0 cb f p2 w4 hl hp2l.2 kB0 hz hr2).mono ?_
  rintro e w5 ⟨rfl, rfl⟩
  go_wp2_with fail
  have hw64 : IntKind.i64.wrap ((len0 : Int) - (p2 : Int)) = ((len0 - p2 : Nat) : Int) := wrap64_sub len0 p2 hl (by omega)
  have hbW : Below w2.heap.size w2 (w5.alloc (.cells #[.string (g q), .int .u64 0] 41)) := hb24.alloc (by omega) _
  have kA := hc2.below hbW
  have kB := hbc2.below hbW
  have sA := hs2.below hbW
  have sB := hsc.below hbW
  have kL : BRow w2.heap.size (w5.alloc (.cells #[.string (g q), .int .u64 0] 41)) a' (len0 - p2) (fun j => f (p2 + j)) := hbr.below ((Below.refl _ _).alloc (by omega) _)
  clear kA0 kB0 sA0 sB0
  go_quiet (fail)
  go_wp2_with fail
  by_cases hcp : cb = p2
  · have hle : len0 - p2 = 0 := by omega
    go_quiet ((go_at_call 9; exact (beq_zero _ _ _ _ _ (by omega) _).mono (fun e w' h => ⟨h.1, _, h.2⟩)))
    go_wp2_with fail
    refine (beq_any _ a0 _ len0 cap0 _ f _ (kA.drewN _) (kB.drewN _)).mono ?_
    rintro e w6 ⟨rfl, rfl⟩
    go_wp2_with fail
    refine (seq_any _ an _ ln cn cb2 g _ hn (sA.drewN _) (sB.drewN _)).mono ?_
    rintro e w7 ⟨rfl, hb7⟩
    go_wp2_with fail
    go_ret
    refine ⟨rfl, (hb12.trans (hbW.mono (by omega))).trans ?_⟩
    exact (below_drewN (Below.refl _ _) _).trans (hb7.mono (by simp; omega))
  · go_quiet ((go_at_call 9; exact (beq_any _ _ _ _ _ _ _ _ (kL.drewN _) ((kB.tail p2 (by omega)).drewN _)).mono (fun e w' h => ⟨h.1, _, h.2⟩)))
    go_wp2_with fail
    refine (beq_any _ a0 _ len0 cap0 _ f _ (kA.drewN _) (kB.drewN _)).mono ?_
    rintro e w6 ⟨rfl, rfl⟩
    go_wp2_with fail
    refine (seq_any _ an _ ln cn cb2 g _ hn (sA.drewN _) (sB.drewN _)).mono ?_
    rintro e w7 ⟨rfl, hb7⟩
    go_wp2_with fail
    go_ret
    refine ⟨rfl, (hb12.trans (hbW.mono (by omega))).trans ?_⟩
    exact (below_drewN (Below.refl _ _) _).trans (hb7.mono (by simp; omega))

end Go.Proofs.YbulkebkmFmt
