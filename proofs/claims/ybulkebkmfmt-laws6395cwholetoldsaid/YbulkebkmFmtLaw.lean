import Derived.Test.YbulkebkmFmtLib
import Derived.LaidEql
/-! LawS6395CWhole (function 3). -/
namespace Go.Proofs.YbulkebkmFmt
open Go.RowKit Go.Extern.Stop Go.Stop Go.Extern
set_option linter.unusedVariables false

theorem SRow.mono {B B' : Nat} {w : World} {a : Option Addr} {len : Nat} {f : Nat → ByteArray} (h : SRow B w a len f) (hb : B ≤ B') : SRow B' w a len f := by
  rcases h with h | ⟨b, off, ha, hB, h⟩
  · exact .inl h
  · exact .inr ⟨b, off, ha, by omega, h⟩

theorem BRow.drewN {B : Nat} {w : World} {a : Option Addr} {len : Nat} {f : Nat → Int} (h : BRow B w a len f) (n : Nat) : BRow B (w.drewN n) a len f := h.below (below_drewN (Below.refl _ _) _)
theorem SRow.drewN {B : Nat} {w : World} {a : Option Addr} {len : Nat} {f : Nat → ByteArray} (h : SRow B w a len f) (n : Nat) : SRow B (w.drewN n) a len f := h.below (below_drewN (Below.refl _ _) _)

theorem wrap64_small (q : Nat) (h : q ≤ 1048576) : IntKind.i64.wrap (q : Int) = q := by
  simp [IntKind.wrap, IntKind.signed, IntKind.bits]; omega

theorem neq_same (a : Addr) (w : World) : (binOp .neq 28 (.iface 45 (.pointer (some a))) (.iface 45 (.pointer (some a)))).run Ybaf.prog w = .ok (.bool false) w := by
  simp only [binOp]
  simp [Op.equal, Op.maxDepth, run_equalIn_iface_ptr_same (P := Ybaf.prog) w 9998 a Ybaf.underlying28 Ybaf.underlying45 (i := Ybaf.t45) (j := Ybaf.t47) (by kernel_rfl) rfl (by kernel_rfl)]

set_option maxRecDepth 100000 in
set_option maxHeartbeats 400000 in
theorem law_big (a0 : Option Addr) (len0 cap0 : Nat) (es : Bool) (rep : ByteArray) (an : Option Addr) (ln cn : Nat) (seq : Int) (w : World) (h1 : len0 ≤ maxLen) (h2 : ln ≤ maxLen) (h : ¬ (len0 ≤ 1048576 ∧ ln ≤ 1048576)) :
    Calls Ybaf.prog 3 #[.slice a0 len0 cap0, .bool es, .string rep, .slice an ln cn, .int .u64 seq] w fun e w' => e = .returned (.bool true) ∧ Below w.heap.size w w' := by
  unfold maxLen at h1 h2
  by_cases hl : len0 ≤ 1048576
  · have hn : ¬ ln ≤ 1048576 := fun e => h ⟨hl, e⟩
    clear h
    go_enter Ybaf.func3, Ybaf.ntmps3
    go_wp2_with fail
    go_ret
    exact ⟨rfl, Below.refl _ _⟩
  · clear h
    go_enter Ybaf.func3, Ybaf.ntmps3
    go_wp2_with fail
    go_ret
    exact ⟨rfl, Below.refl _ _⟩

set_option maxRecDepth 100000 in
set_option maxHeartbeats 800000 in
theorem law_err (a0 : Option Addr) (len0 cap0 : Nat) (f : Nat → Int) (rep : ByteArray) (an : Option Addr) (ln cn : Nat) (g : Nat → ByteArray) (seq : Int) (w : World) (hl : len0 ≤ 1048576) (hn : ln ≤ 1048576)
    (hc : BRow w.heap.size w a0 len0 f) (hs : SRow w.heap.size w an ln g) :
    Calls Ybaf.prog 3 #[.slice a0 len0 cap0, .bool true, .string rep, .slice an ln cn, .int .u64 seq] w fun e w' => e = .returned (.bool true) ∧ Below w.heap.size w w' := by
  go_enter Ybaf.func3, Ybaf.ntmps3
  go_wp2_with fail
  refine (clone4_any _ a0 len0 cap0 f w hl hc).mono ?_
  rintro e w1 ⟨ab, cb, rfl, hcb, hbc, hb1⟩
  have hs1 := hs.below hb1
  have hc1 := hc.below hb1
  go_wp2_with fail
  refine (clone5_any _ an ln cn g w1 hn hs1).mono ?_
  rintro e w2 ⟨ab2, cb2, rfl, hcb2, hsc, hb2⟩
  have hz1 := hb1.size
  have hz2 := hb2.size
  have hc2 : BRow w2.heap.size w2 a0 len0 f := (hc1.below (hb2.mono hz1)).mono (by omega)
  have hs2 : SRow w2.heap.size w2 an ln g := (hs1.below (hb2.mono hz1)).mono (by omega)
  have hbc2 : BRow w2.heap.size w2 ab len0 f := (hbc.below hb2).mono hz2
  have hb12 : Below w.heap.size w w2 := hb1.trans (hb2.mono hz1)
  clear hs1 hc1 hb1 hb2 hbc hs hc
  go_wp2_with fail
  refine (new_any _ _).mono ?_
  rintro e w3 ⟨rfl, rfl⟩
  have hnq := neq_same ⟨w2.heap.size, 0, none⟩
  go_wp2_with fail
  refine (hang_err (w2.heap.size + 1) 45 (.pointer (some ⟨w2.heap.size, 0, none⟩)) rep an ln cn seq _ hn ?hcell).mono ?_
  case hcell => simp
  rintro e w4 ⟨rfl, rfl⟩
  go_wp2_with fail
  go_quiet (fail)
  go_wp2_with fail
  have hw64 : IntKind.i64.wrap (len0 : Int) = len0 := wrap64_small len0 hl
  have hbW : Below w2.heap.size w2 ((w2.alloc (.cells #[.string ⟨#[112, 114, 101, 115, 101, 116]⟩] 47)).alloc (.cells #[.slice a0 len0 cap0, .iface 45 (.pointer (some ⟨w2.heap.size, 0, none⟩))] 32)) := ((Below.refl _ w2).alloc (Nat.le_refl _) _).alloc (by simp) _
  have kA := hc2.below hbW
  have kB := hbc2.below hbW
  go_quiet ((go_at_call 9; exact (beq_any _ a0 ab len0 cap0 cb f _ (kA.drewN _) (kB.drewN _)).mono (fun e w' h => ⟨h.1, _, h.2⟩)))
  go_wp2_with fail
  refine (beq_any _ a0 ab len0 cap0 cb f _ (kA.drewN _) (kB.drewN _)).mono ?_
  rintro e w5 ⟨rfl, rfl⟩
  have sA := hs2.below hbW
  have sB := hsc.below hbW
  go_wp2_with fail
  refine (seq_any _ an ab2 ln cn cb2 g _ hn (sA.drewN _) (sB.drewN _)).mono ?_
  rintro e w6 ⟨rfl, hb6⟩
  go_wp2_with fail
  go_ret
  refine ⟨rfl, (hb12.trans (hbW.mono (by omega))).trans ?_⟩
  exact (below_drewN (Below.refl _ _) _).trans (hb6.mono (by simp; omega))
end Go.Proofs.YbulkebkmFmt
