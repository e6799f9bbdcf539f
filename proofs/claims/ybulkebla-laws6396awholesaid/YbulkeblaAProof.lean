import Derived.Test.YbulkeblaRows
import Derived.Test.YbulkeblaALw
import Derived.WalkKit
import Derived.ProofKit
import Derived.OpenShut
import Derived.ShutString
import Derived.ChangeOld
import Derived.Below
import Derived.Deep.Slices
import Derived.Deep.Strs
/-! LawS6396AWhole: the row's step, the statement. -/
namespace Go.Proofs.Ybulkebla.lawS6396AWhole
open Go.ChangeShapes Go.WideShapes Go.ChangeAt Go.RowKit
set_option linter.unusedVariables false

theorem own : ownKnob Yba.prog.godebug = none := by kernel_rfl
theorem laidOut : laidOutB Yba.prog = true := by kernel_rfl
theorem cells26 : Yba.prog.cellsOf 26 = 4 := by kernel_rfl
theorem cells5 : Yba.prog.cellsOf 5 = 1 := by kernel_rfl
theorem cells24 : Yba.prog.cellsOf 24 = 1 := by kernel_rfl

theorem addr_of_cell {w : World} {a : Addr} {v : Value} (h : w.cell? a = some v) : a.spot = none ∧ a.block < w.heap.size := by
  unfold World.cell? at h
  split at h
  · rename_i c e fz hb
    refine ⟨?_, (Array.getElem?_eq_some_iff.1 hb).1⟩
    cases hs : a.spot with
    | none => rfl
    | some x => simp [hs] at h
  · cases h
theorem u8_of {n : Int} (h : (Lit.int .u8 n).wf = true) : ∃ k : Nat, n = k ∧ k < 256 := by
  simp [Lit.wf, IntKind.min, IntKind.max, IntKind.signed, IntKind.bits] at h
  exact ⟨n.toNat, by omega, by omega⟩
theorem i16_of {n : Int} (h : (Lit.int .i16 n).wf = true) : -32768 ≤ n ∧ n ≤ 32767 := by
  simp [Lit.wf, IntKind.min, IntKind.max, IntKind.signed, IntKind.bits] at h
  omega

/-- What the walk is told of the raw runs: none; or a row of four cells an element. -/
def IsRaw (w : World) (a : Option Addr) (len : Nat) : Prop :=
  len = 0 ∨ ∃ (b off : Nat) (pe se co : Nat → Nat) (fi : Nat → Int), a = some ⟨b, off, none⟩ ∧ b < w.heap.size ∧ (∀ i, i < len → pe i < 256 ∧ se i < 256 ∧ co i < 256 ∧ -32768 ≤ fi i ∧ fi i ≤ 32767) ∧
    ∀ i, i < len → w.cell? ⟨b, off + i * 4, none⟩ = some (.int .u8 (pe i : Nat)) ∧ w.cell? ⟨b, off + i * 4 + 1, none⟩ = some (.int .u8 (se i : Nat)) ∧ w.cell? ⟨b, off + i * 4 + 2, none⟩ = some (.int .i16 (fi i)) ∧ w.cell? ⟨b, off + i * 4 + 3, none⟩ = some (.int .u8 (co i : Nat))

theorem walk (pe0 se0 : Nat) (items : Int) (a : Option Addr) (len cap : Nat) (w : World) (h0 : pe0 < 256) (h1 : se0 < 256) (h : IsRaw w a len) :
    Calls Yba.prog 3 #[.int .u8 (pe0 : Nat), .int .u8 (se0 : Nat), .int .i64 items, .slice a len cap] w fun e w' => e = .returned (.bool true) ∧ Below w.heap.size w w' := by
  haveI : Inhabited Rn := ⟨⟨0, 0, 0⟩⟩
  haveI : Inhabited Hs := ⟨⟨0, 0, 0⟩⟩
  haveI : Inhabited Sc := ⟨⟨0, 0⟩⟩
  by_cases hL : 4096 < len
  · refine (Ybulkebla.lawLong pe0 se0 len cap items a w hL).mono ?_
    rintro e w' ⟨rfl, rfl⟩
    exact ⟨rfl, Below.refl _ _⟩
  · rcases h with hz | ⟨b, off, pe, se, co, fi, rfl, hb, hbd, hc⟩
    · subst hz
      exact Ybulkebla.law pe0 se0 0 cap 0 0 items a w (by omega) (fun _ => 0) (fun _ => 0) (fun _ => 0) (fun _ => 0) h0 h1 (fun h => by omega) (fun i h => by omega) (fun i h => by omega)
    · exact Ybulkebla.law pe0 se0 len cap b off items _ w (by omega) pe se co fi h0 h1 (fun _ => ⟨rfl, hb⟩) hbd hc

theorem choose4 {n : Nat} {R : Nat → Nat → Nat → Nat → Int → Prop} (h : ∀ i, i < n → ∃ p s c f, R i p s c f) : ∃ (pe se co : Nat → Nat) (fi : Nat → Int), ∀ i, i < n → R i (pe i) (se i) (co i) (fi i) := by
  have h' : ∀ i, ∃ q : Nat × Nat × Nat × Int, i < n → R i q.1 q.2.1 q.2.2.1 q.2.2.2 := fun i => by
    by_cases hi : i < n
    · obtain ⟨p, s, c, f, hr⟩ := h i hi
      exact ⟨(p, s, c, f), fun _ => hr⟩
    · exact ⟨(0, 0, 0, 0), fun h => absurd h hi⟩
  refine ⟨fun i => (Classical.choose (h' i)).1, fun i => (Classical.choose (h' i)).2.1, fun i => (Classical.choose (h' i)).2.2.1, fun i => (Classical.choose (h' i)).2.2.2, fun i hi => Classical.choose_spec (h' i) hi⟩

set_option maxRecDepth 100000 in
theorem lifted (os : Os) (started : os.Started) (H : Type) (enc : TypeId × Value → H) :
    ReturnsInHanded {} Yba.checked os 3 .any (Rows.lawS6396AWholeSpec.pre6 enc Yba.prog Yba.f3 Rows.lawS6396AWholeRow.domain false) (Rows.lawS6396AWholeSpec.post enc Yba.prog Yba.f3 false true false false) := by
  refine returnsInHanded_of_change (C := Yba.checked) own started (by kernel_rfl) Yba.func3
    (ChangeSpec.witness6 (enc := enc) (C := Yba.checked) false ⟨#[], #[.int .u8 0, .int .u8 0, .int .i64 0, .slice none 0 0], []⟩ 8 (by kernel_rfl) (by kernel_rfl) (by kernel_rfl) (by kernel_rfl)) ?_
  intro W base args ds gs before hval0 hW hcnd _
  have hval : ∀ (j : Nat) t v, Yba.f3.params[j]? = some t → args[j]? = some v → Value.okWide Yba.prog W .any base t v := hval0
  have hW' := hW
  obtain ⟨p, q, hA0, hV, rfl, hfz, hnd⟩ := hW
  have hA : DataW.TrodAll enc Yba.prog W 0 (fun _ => true) true Yba.f3.params.toList args.toList ds p := hA0
  rw [Yba.params3] at hA hval
  obtain ⟨v0, vs0, d0, ds0, p0, q0, hargs, rfl, rfl, h0, r0⟩ := trodAll_cons hA
  obtain ⟨v1, vs1, d1, ds1, p1, q1, rfl, rfl, rfl, h1, r1⟩ := trodAll_cons r0
  obtain ⟨v2, vs2, d2, ds2, p2, q2, rfl, rfl, rfl, h2, r2⟩ := trodAll_cons r1
  obtain ⟨v3, vs3, d3, ds3, p3, q3, rfl, rfl, rfl, h3, r3⟩ := trodAll_cons r2
  obtain ⟨rfl, rfl, rfl⟩ := trodAll_nil r3
  obtain rfl : args = #[v0, v1, v2, v3] := by cases args; simp_all
  obtain ⟨rfl, rfl⟩ := trodVars_none hV
  obtain ⟨n0, rfl, rfl, rfl, wf0⟩ := open_int Yba.underlying5 (hval 0 5 v0 rfl rfl) h0
  obtain ⟨n1, rfl, rfl, rfl, wf1⟩ := open_int Yba.underlying5 (hval 1 5 v1 rfl rfl) h1
  obtain ⟨n2, rfl, rfl, rfl, wf2⟩ := open_int Yba.underlying2 (hval 2 2 v2 rfl rfl) h2
  obtain ⟨a3, len3, cap3, rfl⟩ := okWide_slice Yba.underlying22 (hval 3 22 v3 rfl rfl)
  obtain ⟨m0, rfl, hm0⟩ := u8_of wf0
  obtain ⟨m1, rfl, hm1⟩ := u8_of wf1
  have k3 := h3
  have lt3 : ∀ x ∈ p3, x.block < W.heap.size := by obtain ⟨m, hm⟩ := k3; exact DataW.trod_lt m _ _ _ hm
  have w3 : IsRaw W a3 len3 := by
    obtain ⟨fuel, hf⟩ := h3
    rcases Deep.open_slice Yba.underlying22 hf with ⟨hcs, _⟩ | ⟨x, l, c, m, n, D, Pl, hcs, _, hl, hm, hmm, _, hel⟩
    · simp [Value.cells] at hcs
      obtain ⟨rfl, rfl, rfl⟩ := hcs
      exact .inl rfl
    · simp [Value.cells] at hcs
      obtain ⟨rfl, rfl, rfl⟩ := hcs
      by_cases hz : len3 = 0
      · exact .inl hz
      · have hlm : len3 ≤ m := by rw [hmm]; simpa using hl
        have each : ∀ i, i < len3 → ∃ (pe se co : Nat) (fi : Int), (pe < 256 ∧ se < 256 ∧ co < 256 ∧ -32768 ≤ fi ∧ fi ≤ 32767) ∧ W.cell? (x.add (i * 4)) = some (.int .u8 (pe : Nat)) ∧ W.cell? (x.add (i * 4 + 1)) = some (.int .u8 (se : Nat)) ∧ W.cell? (x.add (i * 4 + 2)) = some (.int .i16 fi) ∧ W.cell? (x.add (i * 4 + 3)) = some (.int .u8 (co : Nat)) := by
          intro i hi
          obtain ⟨cs', hcs', htr⟩ := hel i (by omega)
          rw [cells26] at hcs'
          obtain ⟨y0, y1, y2, y3, n', _, hlen, t0, t1, t2, t3⟩ := Joins.trod_struct4 Yba.underlying26 htr
          rw [cells26] at hlen
          have hg := (World.cells?_some hcs').2.2
          match cs', hlen with
          | [u0, u1, u2, u3], _ =>
            simp only [cells5, cells24] at t0 t1 t2 t3
            obtain ⟨z0, e0, _, wz0⟩ := DataW.trod_int Yba.underlying5 t0
            obtain ⟨z1, e1, _, wz1⟩ := DataW.trod_int Yba.underlying5 t1
            obtain ⟨z2, e2, _, wz2⟩ := DataW.trod_int Yba.underlying24 t2
            obtain ⟨z3, e3, _, wz3⟩ := DataW.trod_int Yba.underlying5 t3
            simp at e0 e1 e2 e3
            subst e0 e1 e2 e3
            obtain ⟨k0, rfl, hk0⟩ := u8_of wz0
            obtain ⟨k1, rfl, hk1⟩ := u8_of wz1
            obtain ⟨k3', rfl, hk3⟩ := u8_of wz3
            have hk2 := i16_of wz2
            have g0 := hg 0 (by omega)
            have g1 := hg 1 (by omega)
            have g2 := hg 2 (by omega)
            have g3 := hg 3 (by omega)
            rw [Deep.add_add] at g0 g1 g2 g3
            exact ⟨k0, k1, k3', z2, ⟨hk0, hk1, hk3, hk2⟩, g0, g1, g2, g3⟩
        obtain ⟨pe, se, co, fi, hall⟩ := choose4 each
        obtain ⟨b, off, sp⟩ := x
        have h0c := addr_of_cell (hall 0 (by omega)).2.1
        have hsp : sp = none := h0c.1
        subst hsp
        refine .inr ⟨b, off, pe, se, co, fi, rfl, h0c.2, fun i hi => (hall i hi).1, fun i hi => ?_⟩
        have h4 := (hall i hi).2
        rw [Addr.add_lit, Addr.add_lit, Addr.add_lit, Addr.add_lit] at h4
        exact h4
  clear hA0 hval0
  refine (walk m0 m1 n2 a3 len3 cap3 W hm0 hm1 w3).mono fun e W' ⟨he, bel⟩ => ?_
  subst he
  exact ⟨_, rfl, _, _, _, [], _, [], hW', trodAll_mk1 (shut_bool Yba.underlying4 _), (trodAll_cons_mk (shut_int Yba.underlying5 wf0) (trodAll_cons_mk (shut_int Yba.underlying5 wf1) (trodAll_cons_mk (shut_int Yba.underlying2 wf2) (trodAll_cons_mk (Below.trod laidOut (by kernel_rfl) (of_decide_eq_true (by kernel_rfl)) k3 bel lt3) trodAll_mk0)))), rfl, bel.frame _, fun h => by cases h⟩

theorem over : Rows.lawS6396AWholeRow.holds Yba.pinned (OpenSpec.ofChange Rows.lawS6396AWholeSpec) :=
  OpenClaim.holds_of_wide 3 Yba.f3 rfl rfl rfl rfl rfl rfl rfl ⟨rfl, rfl, rfl, rfl, rfl⟩ rfl rfl rfl rfl rfl (by kernel_rfl) Yba.func3 (by kernel_rfl)
    (of_decide_eq_true (by kernel_rfl)) (by unfold Func.isWrapper; first | (rw [if_pos (by decide +kernel)]; kernel_rfl) | (rw [if_neg (by decide +kernel)]; exact ⟨rfl, rfl⟩))
    (fun os started H enc _ => lifted os started H enc)

/-- The statement. -/
theorem proved : Rows.LawS6396AWholeSaid := over
end Go.Proofs.Ybulkebla.lawS6396AWhole
