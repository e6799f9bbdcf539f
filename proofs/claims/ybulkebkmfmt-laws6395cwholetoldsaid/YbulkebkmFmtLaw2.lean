import Derived.Test.YbulkebkmFmtLaw
/-! LawS6395CWhole (function 3), the ways without a preset error. -/
namespace Go.Proofs.YbulkebkmFmt
open Go.RowKit Go.Extern.Stop Go.Stop Go.Extern
set_option linter.unusedVariables false

theorem read_none (B : Nat) (a : Option Addr) (len cap : Nat) (f : Nat → Int) (at0 : Nat) (w : World) (hlen : len ≤ 1048576) (hat : at0 ≤ len)
    (hc : BRow B w a len f) (hz : ∀ k : Nat, k < len → 0 ≤ f k ∧ f k ≤ 255) (hr : rd f len 11 0 at0 0 = none) :
    Calls Ybaf.prog 8 #[.slice a len cap, .int .i64 at0] w fun e w' => e = .returned (.tuple #[.int .u64 0, .int .i64 at0, .bool false]) ∧ w' = w := by
  refine (read_any B a len cap f at0 w hlen hat hc hz).mono ?_
  rintro e w' ⟨rfl, rfl⟩
  rw [hr]; exact ⟨rfl, rfl⟩
theorem read_some (B : Nat) (a : Option Addr) (len cap : Nat) (f : Nat → Int) (at0 : Nat) (w : World) (hlen : len ≤ 1048576) (hat : at0 ≤ len)
    (hc : BRow B w a len f) (hz : ∀ k : Nat, k < len → 0 ≤ f k ∧ f k ≤ 255) (v : Int) (k pos : Nat) (hr : rd f len 11 0 at0 0 = some (v, k)) (hpos : at0 + k = pos) :
    Calls Ybaf.prog 8 #[.slice a len cap, .int .i64 at0] w fun e w' => e = .returned (.tuple #[.int .u64 v, .int .i64 pos, .bool true]) ∧ w' = w := by
  refine (read_any B a len cap f at0 w hlen hat hc hz).mono ?_
  rintro e w' ⟨rfl, rfl⟩
  rw [hr, ← hpos]; exact ⟨rfl, rfl⟩

theorem wrap64_sub (n p : Nat) (h : n ≤ 1048576) (hp : p ≤ n) : IntKind.i64.wrap ((n : Int) - (p : Int)) = ((n - p : Nat) : Int) := by
  simp [IntKind.wrap, IntKind.signed, IntKind.bits]; omega

theorem BRow.tail {B : Nat} {w : World} {b off : Nat} {n : Nat} {f : Nat → Int} (h : BRow B w (some ⟨b, off, none⟩) n f) (p : Nat) (hp : p ≤ n) : BRow B w (some ⟨b, off + p, none⟩) (n - p) (fun j => f (p + j)) := by
  rcases h with h | ⟨b', off', he, hB, h⟩
  · exact .inl (by omega)
  · cases he
    refine .inr ⟨b, off + p, rfl, hB, fun k hk => ?_⟩
    rw [Nat.add_assoc]; exact h (p + k) (by omega)

theorem sideOf_eq (h : Int) : sideOf h = bits BinOp.and IntKind.u64 h 1 % 256 := by simp [sideOf, IntKind.wrap, IntKind.signed, IntKind.bits]

set_option maxHeartbeats 400000 in
theorem beq_zero (a a' : Option Addr) (c c' n : Nat) (hn : n = 0) (w : World) :
    Calls Ybaf.prog 9 #[.slice a n c, .slice a' n c'] w fun e w' => e = .returned (.bool true) ∧ w' = w := by
  subst hn
  exact beq_any 0 a a' 0 c c' (fun _ => 0) w (.inl rfl) (.inl rfl)

set_option maxRecDepth 100000 in
set_option maxHeartbeats 1600000 in
theorem law_B (F : Interp) (a0 : Option Addr) (len0 cap0 : Nat) (f : Nat → Int) (rep : ByteArray) (an : Option Addr) (ln cn : Nat) (g : Nat → ByteArray) (seq : Int) (w : World) (hF : F.answers w.tape) (hl : len0 ≤ 1048576) (hcap : len0 ≤ cap0) (hn : ln ≤ 1048576)
    (hc : BRow w.heap.size w a0 len0 f) (hs : SRow w.heap.size w an ln g) (hz : ∀ k : Nat, k < len0 → 0 ≤ f k ∧ f k ≤ 255)
    (h : Int) (k : Nat) (hr : rd f len0 11 0 0 0 = some (h, k)) (hh : 0 < h / 2) :
    Calls Ybaf.prog 3 #[.slice a0 len0 cap0, .bool false, .string rep, .slice an ln cn, .int .u64 seq] w fun e w' => e = .returned (.bool true) ∧ Below w.heap.size w w' := by
  go_enter Ybaf.func3, Ybaf.ntmps3
  go_wp2_with fail
  refine (clone4_any _ a0 len0 cap0 f w hl hc).mono ?_
  rintro e w1 ⟨ab, cb, rfl, hcb, hbc, hb1⟩
  have hs1 := hs.below hb1
  have hc1 := hc.below hb1
  go_wp2_with fail
  refine (clone5_any _ an ln cn g w1 hn hs1).mono ?_
  rintro e w2 ⟨ab2, cb2, rfl, hcb2, hsc, hb2⟩
  have hz1 := hb1.size
  have hz2 := hb2.size
  have hc2 : BRow w2.heap.size w2 a0 len0 f := (hc1.below (hb2.mono hz1)).mono (by omega)
  have hs2 : SRow w2.heap.size w2 an ln g := (hs1.below (hb2.mono hz1)).mono (by omega)
  have hbc2 : BRow w2.heap.size w2 ab len0 f := (hbc.below hb2).mono hz2
  have hb12 : Below w.heap.size w w2 := hb1.trans (hb2.mono hz1)
  have hF2 : F.answers w2.tape := by rw [hb12.tape]; exact hF
  clear hs1 hc1 hb1 hb2 hbc hs hc hF
  go_wp2_with fail
  have hbl : Below w2.heap.size w2 (w2.alloc (.cells #[.slice a0 len0 cap0, .nilIface] 32)) := (Below.refl _ w2).alloc (Nat.le_refl _) _
  have hrd : Rdr (w2.alloc (.cells #[.slice a0 len0 cap0, .nilIface] 32)) w2.heap.size (.slice a0 len0 cap0) .nilIface := ⟨by simp, by simp, by simp, by simp, by simp⟩
  have hcl := hc2.below hbl
  have hsl := hs2.below hbl
  refine (hang_B w2.heap.size rep an ln cn seq _ hn a0 len0 cap0 f hl hcap hrd hcl hz h k hr hh).mono ?_
  rintro e w4 ⟨v, a', er, rfl, hp, hx, hbr, he, hb4⟩
  obtain ⟨gb, rfl, hg1, hg2, hg3, hg4⟩ := hp
  have he' : er = .nilIface := he
  subst he' 
  have hk : 0 < k ∧ k ≤ len0 := by simpa using rd_le _ _ _ _ _ _ _ hr
  have hsd : sideOf h = bits BinOp.and IntKind.u64 h 1 % 256 := sideOf_eq h
  obtain ⟨bb, bo, rfl⟩ : ∃ bb bo, ab = some ⟨bb, bo, none⟩ := by
    rcases hbc2 with h0 | ⟨bb, bo, h1, _⟩
    · omega
    · exact ⟨bb, bo, h1⟩

  have hz4 := hx.sz
  have hb24 : Below w2.heap.size w2 w4 := hbl.trans hb4
  have kA0 := hc2.below hb24
  have kB0 := hbc2.below hb24
  have sA0 := hs2.below hb24
  have sB0 := hsc.below hb24
  have hlc0 := hx.c0
  have hlc1 := hx.c1
  clear hbl hrd hcl hsl hb4
  go_wp2_with fail
  refine (read_some _ _ len0 cb f 0 w4 hl (Nat.zero_le _) kB0 hz h k k hr (by omega)).mono ?_
  rintro e w5 ⟨rfl, rfl⟩
  go_wp2_with fail
  have hw64 : IntKind.i64.wrap ((len0 : Int) - (k : Int)) = ((len0 - k : Nat) : Int) := wrap64_sub len0 k hl (by omega)
  have hbW : Below w2.heap.size w2 (w5.alloc (.cells #[.string rep, .int .u64 (IntKind.u64.wrap (seq - h / 2))] 41)) := hb24.alloc (by omega) _
  have kA := hc2.below hbW
  have kB := hbc2.below hbW
  have sA := hs2.below hbW
  have sB := hsc.below hbW
  have kL : BRow w2.heap.size (w5.alloc (.cells #[.string rep, .int .u64 (IntKind.u64.wrap (seq - h / 2))] 41)) a' (len0 - k) (fun j => f (k + j)) := hbr.below ((Below.refl _ _).alloc (by omega) _)
  clear kA0 kB0 sA0 sB0
  go_quiet (fail)
  go_wp2_with fail
  by_cases hcp : cb = k
  · have hle : len0 - k = 0 := by omega
    go_quiet ((go_at_call 9; exact (beq_zero _ _ _ _ _ (by omega) _).mono (fun e w' h => ⟨h.1, _, h.2⟩)))
    go_wp2_with fail
    refine (beq_any _ a0 _ len0 cap0 _ f _ (kA.drewN _) (kB.drewN _)).mono ?_
    rintro e w6 ⟨rfl, rfl⟩
    go_wp2_with fail
    refine (seq_any _ an _ ln cn cb2 g _ hn (sA.drewN _) (sB.drewN _)).mono ?_
    rintro e w7 ⟨rfl, hb7⟩
    go_wp2_with fail
    go_ret
    refine ⟨rfl, (hb12.trans (hbW.mono (by omega))).trans ?_⟩
    exact (below_drewN (Below.refl _ _) _).trans (hb7.mono (by simp; omega))
  · go_quiet ((go_at_call 9; exact (beq_any _ _ _ _ _ _ _ _ (kL.drewN _) ((kB.tail k (by omega)).drewN _)).mono (fun e w' h => ⟨h.1, _, h.2⟩)))
    go_wp2_with fail
    refine (beq_any _ a0 _ len0 cap0 _ f _ (kA.drewN _) (kB.drewN _)).mono ?_
    rintro e w6 ⟨rfl, rfl⟩
    go_wp2_with fail
    refine (seq_any _ an _ ln cn cb2 g _ hn (sA.drewN _) (sB.drewN _)).mono ?_
    rintro e w7 ⟨rfl, hb7⟩
    go_wp2_with fail
    go_ret
    refine ⟨rfl, (hb12.trans (hbW.mono (by omega))).trans ?_⟩
    exact (below_drewN (Below.refl _ _) _).trans (hb7.mono (by simp; omega))

end Go.Proofs.YbulkebkmFmt
