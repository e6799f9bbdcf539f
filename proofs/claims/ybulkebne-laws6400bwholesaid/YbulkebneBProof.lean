import Derived.Test.YbulkebneBZero
import Derived.ProofKit
import Derived.OpenShut
import Derived.ShutString
import Derived.ChangeOld
import Derived.Below
import Derived.Deep.Slices
import Derived.Deep.Strs
/-! LawS6400BWhole: the row's step, the statement. -/
namespace Go.Proofs.Ybulkebne.lawB
open Go.ChangeShapes Go.WideShapes Go.ChangeAt Go.RowKit
set_option linter.unusedVariables false

theorem own : ownKnob Yba.prog.godebug = none := by kernel_rfl
theorem laidOut : laidOutB Yba.prog = true := by kernel_rfl
theorem cells82 : Yba.prog.cellsOf 82 = 3 := by kernel_rfl
theorem cells3 : Yba.prog.cellsOf 3 = 1 := by kernel_rfl

theorem addr_of_cell {w : World} {a : Addr} {v : Value} (h : w.cell? a = some v) : a.spot = none ∧ a.block < w.heap.size := by
  unfold World.cell? at h
  split at h
  · rename_i c e fz hb
    refine ⟨?_, (Array.getElem?_eq_some_iff.1 hb).1⟩
    cases hs : a.spot with
    | none => rfl
    | some x => simp [hs] at h
  · cases h

/-- What the walk is told of the slice: nil; no element; or a row of three integers an element. -/
def Is3 (w : World) (a : Option Addr) (len : Nat) : Prop :=
  (a = none ∧ len = 0) ∨ ((∃ x, a = some x) ∧ len = 0) ∨ ∃ (b off : Nat) (f : Nat → Int), a = some ⟨b, off, none⟩ ∧ b < w.heap.size ∧ ∀ k, k < 3 * len → w.cell? ⟨b, off + k, none⟩ = some (.int .i64 (f k))

theorem walk (wid hd : Int) (a : Option Addr) (len cap : Nat) (w : World) (hm : len ≤ maxLen) (h : Is3 w a len) :
    Calls Yba.prog 4 #[.int .i64 wid, .int .i64 hd, .slice a len cap] w fun e w' => e = .returned (.bool true) ∧ Below w.heap.size w w' := by
  by_cases hl : len ≤ 1048576
  · rcases h with ⟨rfl, rfl⟩ | ⟨⟨x, rfl⟩, rfl⟩ | ⟨b, off, f, rfl, hb, hc⟩
    · exact lawB_nil wid hd cap w
    · exact lawB_zero wid hd x cap w
    · exact lawB_row wid hd b off len cap f w hl hb hc
  · exact lawB_big wid hd a len cap w hm hl

set_option maxRecDepth 100000 in
theorem lifted (os : Os) (started : os.Started) (H : Type) (enc : TypeId × Value → H) :
    ReturnsInHanded {} Yba.checked os 4 .any (Rows.lawS6400BWholeSpec.pre6 enc Yba.prog Yba.f4 Rows.lawS6400BWholeRow.domain false) (Rows.lawS6400BWholeSpec.post enc Yba.prog Yba.f4 false true false false) := by
  refine returnsInHanded_of_change (C := Yba.checked) own started (by kernel_rfl) Yba.func4
    (ChangeSpec.witness6 (enc := enc) (C := Yba.checked) false ⟨#[], #[.int .i64 0, .int .i64 0, .slice none 0 0], []⟩ 8 (by kernel_rfl) (by kernel_rfl) (by kernel_rfl) (by kernel_rfl)) ?_
  intro W base args ds gs before hval0 hW hcnd _
  have hval : ∀ (j : Nat) t v, Yba.f4.params[j]? = some t → args[j]? = some v → Value.okWide Yba.prog W .any base t v := hval0
  have hW' := hW
  obtain ⟨p, q, hA0, hV, rfl, hfz, hnd⟩ := hW
  have hA : DataW.TrodAll enc Yba.prog W 0 (fun _ => true) true Yba.f4.params.toList args.toList ds p := hA0
  rw [Yba.params4] at hA hval
  obtain ⟨v0, vs0, d0, ds0, p0, q0, hargs, rfl, rfl, h0, r0⟩ := trodAll_cons hA
  obtain ⟨v1, vs1, d1, ds1, p1, q1, rfl, rfl, rfl, h1, r1⟩ := trodAll_cons r0
  obtain ⟨v2, vs2, d2, ds2, p2, q2, rfl, rfl, rfl, h2, r2⟩ := trodAll_cons r1
  obtain ⟨rfl, rfl, rfl⟩ := trodAll_nil r2
  obtain rfl : args = #[v0, v1, v2] := by cases args; simp_all
  obtain ⟨rfl, rfl⟩ := trodVars_none hV
  obtain ⟨wid, rfl, rfl, rfl, wwid⟩ := open_int Yba.underlying2 (hval 0 2 v0 rfl rfl) h0
  obtain ⟨hd, rfl, rfl, rfl, whd⟩ := open_int Yba.underlying2 (hval 1 2 v1 rfl rfl) h1
  obtain ⟨a2, len2, cap2, rfl⟩ := okWide_slice Yba.underlying80 (hval 2 80 v2 rfl rfl)
  have k2 := h2
  have lt2 : ∀ x ∈ p2, x.block < W.heap.size := by obtain ⟨m, hm⟩ := k2; exact DataW.trod_lt m _ _ _ hm
  obtain ⟨hl2, w2⟩ : len2 ≤ maxLen ∧ Is3 W a2 len2 := by
    obtain ⟨fuel, hf⟩ := h2
    rcases Deep.open_slice Yba.underlying80 hf with ⟨hcs, _⟩ | ⟨x, l, c, m, n, D, Pl, hcs, _, hl, hm, hmm, _, hel⟩
    · simp [Value.cells] at hcs
      obtain ⟨rfl, rfl, rfl⟩ := hcs
      exact ⟨Nat.zero_le _, .inl ⟨rfl, rfl⟩⟩
    · simp [Value.cells] at hcs
      obtain ⟨rfl, rfl, rfl⟩ := hcs
      refine ⟨by omega, ?_⟩
      by_cases hz : len2 = 0
      · exact .inr (.inl ⟨⟨x, rfl⟩, hz⟩)
      · have hlm : len2 ≤ m := by rw [hmm]; simpa using hl
        have each : ∀ k, k < 3 * len2 → ∃ y : Int, W.cell? (x.add k) = some (.int .i64 y) := by
          intro k hk
          obtain ⟨cs', hcs', htr⟩ := hel (k / 3) (by omega)
          rw [cells82] at hcs'
          obtain ⟨y0, y1, y2, n', _, hlen, t0, t1, t2⟩ := Deep.trod_struct3 Yba.underlying82 htr
          have hc3 : ∀ j, j < 3 → ∃ y : Int, cs'[j]? = some (.int .i64 y) := by
            rw [cells82] at hlen
            match cs', hlen with
            | [u0, u1, u2], _ =>
              simp only [cells3] at t0 t1 t2
              obtain ⟨z0, e0, _, _⟩ := DataW.trod_int Yba.underlying3 t0
              obtain ⟨z1, e1, _, _⟩ := DataW.trod_int Yba.underlying3 t1
              obtain ⟨z2, e2, _, _⟩ := DataW.trod_int Yba.underlying3 t2
              simp at e0 e1 e2
              subst e0 e1 e2
              intro j hj
              have : j = 0 ∨ j = 1 ∨ j = 2 := by omega
              rcases this with rfl | rfl | rfl
              · exact ⟨z0, rfl⟩
              · exact ⟨z1, rfl⟩
              · exact ⟨z2, rfl⟩
          obtain ⟨y, hy⟩ := hc3 (k % 3) (by omega)
          refine ⟨y, ?_⟩
          have hg := (World.cells?_some hcs').2.2 (k % 3) (by omega)
          rw [Deep.add_add, show k / 3 * 3 + k % 3 = k from by omega] at hg
          rw [hg, hy]
        obtain ⟨f, hf'⟩ := Deep.choose_lt each
        obtain ⟨b, off, sp⟩ := x
        have h0c := addr_of_cell (hf' 0 (by omega))
        have hsp : sp = none := h0c.1
        subst hsp
        exact .inr (.inr ⟨b, off, f, rfl, h0c.2, fun k hk => by rw [← Addr.add_lit]; exact hf' k hk⟩)
  clear hA0 hval0
  refine (walk wid hd a2 len2 cap2 W hl2 w2).mono fun e W' ⟨he, bel⟩ => ?_
  subst he
  exact ⟨_, rfl, _, _, _, [], _, [], hW', trodAll_mk1 (shut_bool Yba.underlying4 _), (trodAll_cons_mk (shut_int Yba.underlying2 wwid) (trodAll_cons_mk (shut_int Yba.underlying2 whd) (trodAll_cons_mk (Below.trod laidOut (by kernel_rfl) (of_decide_eq_true (by kernel_rfl)) k2 bel lt2) trodAll_mk0))), rfl, bel.frame _, fun h => by cases h⟩

theorem over : Rows.lawS6400BWholeRow.holds Yba.pinned (OpenSpec.ofChange Rows.lawS6400BWholeSpec) :=
  OpenClaim.holds_of_wide 4 Yba.f4 rfl rfl rfl rfl rfl rfl rfl ⟨rfl, rfl, rfl, rfl, rfl⟩ rfl rfl rfl rfl rfl (by kernel_rfl) Yba.func4 (by kernel_rfl)
    (of_decide_eq_true (by kernel_rfl)) (by unfold Func.isWrapper; first | (rw [if_pos (by decide +kernel)]; kernel_rfl) | (rw [if_neg (by decide +kernel)]; exact ⟨rfl, rfl⟩))
    (fun os started H enc _ => lifted os started H enc)

theorem proved : Rows.LawS6400BWholeSaid := over
end Go.Proofs.Ybulkebne.lawB
