import Derived.Test.YbulkebkmFmtCards
import Derived.Test.YbulkebkmFmtLaw3
import Derived.Test.YbulkebkmFmtLaw4
import Derived.Test.YbulkebkmFmtLaw5
import Derived.Test.YbulkebkmFmtLaw6
import Derived.ProofKit
import Derived.OpenShut
import Derived.ShutString
import Derived.ChangeOld
import Derived.SliceStrings
import Derived.Stop.JoinedAt
import Derived.Stop.JoinedTold
import Derived.SevenToldRow
/-! LawS6395CWhole: the walk at every input, the row's step, the told card. -/
namespace Go.Proofs.YbulkebkmFmt
open Go.ChangeShapes Go.WideShapes Go.ChangeAt Go.RowKit Go.Kit
open Go.ChangeMaps (open_string shut_string)
open Go.Extern.Stop Go.Stop Go.Extern
set_option linter.unusedVariables false

theorem own : ownKnob Ybaf.prog.godebug = none := by kernel_rfl
theorem laidOut : laidOutB Ybaf.prog = true := by kernel_rfl
theorem stopsAre : Ybaf.pinned.checked.prog.stops = ["fmt.errorf"] := by kernel_rfl
theorem knobsAre : Ybaf.pinned.checked.prog.stopKnobs = [] := by kernel_rfl
theorem quietAt (os : Os) : Stop.quiet Ybaf.pinned.checked.prog os := by
  intro k hk
  rw [knobsAre] at hk
  cases hk

theorem law_all (F : Interp) (a0 : Option Addr) (len0 cap0 : Nat) (f : Nat → Int) (es : Bool) (rep : ByteArray) (an : Option Addr) (ln cn : Nat) (g : Nat → ByteArray) (seq : Int) (w : World) (hF : F.answers w.tape) (hm0 : len0 ≤ maxLen) (hm1 : ln ≤ maxLen) (hcap : len0 ≤ cap0)
    (hc : BRow w.heap.size w a0 len0 f) (hs : SRow w.heap.size w an ln g) (hz : ∀ k : Nat, k < len0 → 0 ≤ f k ∧ f k ≤ 255) :
    Calls Ybaf.prog 3 #[.slice a0 len0 cap0, .bool es, .string rep, .slice an ln cn, .int .u64 seq] w fun e w' => e = .returned (.bool true) ∧ Below w.heap.size w w' := by
  by_cases hbig : len0 ≤ 1048576 ∧ ln ≤ 1048576
  · obtain ⟨hl, hn⟩ := hbig
    cases es with
    | true => exact law_err a0 len0 cap0 f rep an ln cn g seq w hl hn hc hs
    | false =>
      cases hr : rd f len0 11 0 0 0 with
      | none => exact law_A F a0 len0 cap0 f rep an ln cn g seq w hF hl hcap hn hc hs hz hr
      | some r =>
        obtain ⟨h, k⟩ := r
        by_cases hh : 0 < h / 2
        · exact law_B F a0 len0 cap0 f rep an ln cn g seq w hF hl hcap hn hc hs hz h k hr hh
        · cases hr1 : rd f len0 11 0 k 0 with
          | none => exact law_C F a0 len0 cap0 f rep an ln cn g seq w hF hl hcap hn hc hs hz h k hr hh hr1
          | some r1 =>
            obtain ⟨p, k2⟩ := r1
            by_cases hp : (ln : Int) < p
            · exact law_D2 F a0 len0 cap0 f rep an ln cn g seq w hF hl hcap hn hc hs hz h k hr hh p k2 hr1 (k + k2) rfl hp
            · by_cases hp0 : 0 < p
              · obtain ⟨q, rfl⟩ : ∃ q : Nat, p = (q : Int) + 1 := ⟨(p - 1).toNat, by omega⟩
                cases hr2 : rd f len0 11 0 (k + k2) 0 with
                | none => exact law_D1n F a0 len0 cap0 f rep an ln cn g seq w hF hl hcap hn hc hs hz h k hr hh q k2 hr1 (k + k2) rfl (by omega) hr2
                | some r2 =>
                  obtain ⟨n, k3⟩ := r2
                  exact law_D1s F a0 len0 cap0 f rep an ln cn g seq w hF hl hcap hn hc hs hz h k hr hh q k2 hr1 (k + k2) rfl (by omega) n k3 hr2 (k + k2 + k3) rfl
              · exact law_D0 F a0 len0 cap0 f rep an ln cn g seq w hF hl hcap hn hc hs hz h k hr hh p k2 hr1 (k + k2) rfl hp hp0
  · exact law_big a0 len0 cap0 es rep an ln cn seq w hm0 hm1 hbig

theorem addr_of_cell {w : World} {a : Addr} {v : Value} (h : w.cell? a = some v) : a.spot = none ∧ a.block < w.heap.size := by
  unfold World.cell? at h
  split at h
  · rename_i c e fz hb
    refine ⟨?_, (Array.getElem?_eq_some_iff.1 hb).1⟩
    cases hs : a.spot with
    | none => rfl
    | some x => simp [hs] at h
  · cases h

set_option maxRecDepth 100000 in
theorem lifted (os : Os) (started : os.Started) (H : Type) (enc : TypeId × Value → H) :
    ReturnsInTold none {} Ybaf.checked os 3 .any Input.okWide ((OpenSpec.ofChange Rows.lawS6395CWholeSpec).preRow enc Ybaf.prog Ybaf.f3 [] false []) (fun F => ((OpenSpec.ofChange Rows.lawS6395CWholeSpec).at F).post enc Ybaf.prog Ybaf.f3 false true false false) (aloneAtReturn Ybaf.prog) nothingAlways := by
  refine returnsInTold_of_row (C := Ybaf.checked) (s := OpenSpec.ofChange Rows.lawS6395CWholeSpec) (by kernel_rfl) own started (by kernel_rfl) Ybaf.func3
    (OpenSpec.witness_stopped (enc := enc) (C := Ybaf.checked) false ⟨#[], #[.slice none 0 0, .bool false, .string ByteArray.empty, .slice none 0 0, .int .u64 0], []⟩ 8 (by kernel_rfl) (by kernel_rfl) (by kernel_rfl) (by kernel_rfl)) ?_
  intro F W base args ds gs before _ hF hval0 hW _ _ hsz _ _
  have hval : ∀ (j : Nat) t v, Ybaf.f3.params[j]? = some t → args[j]? = some v → Value.okWide Ybaf.prog W .any base t v := hval0
  have hW' := hW
  obtain ⟨p, q, hA0, hV, rfl, hfz, hnd⟩ := hW
  have hA : DataW.TrodAll enc Ybaf.prog W 0 (fun _ => true) true Ybaf.f3.params.toList args.toList ds p := hA0
  rw [Ybaf.params3] at hA hval
  obtain ⟨v0, vs0, d0, ds0, p0, q0, hargs, rfl, rfl, h0, r0⟩ := trodAll_cons hA
  obtain ⟨v1, vs1, d1, ds1, p1, q1, rfl, rfl, rfl, h1, r1⟩ := trodAll_cons r0
  obtain ⟨v2, vs2, d2, ds2, p2, q2, rfl, rfl, rfl, h2, r2⟩ := trodAll_cons r1
  obtain ⟨v3, vs3, d3, ds3, p3, q3, rfl, rfl, rfl, h3, r3⟩ := trodAll_cons r2
  obtain ⟨v4, vs4, d4, ds4, p4, q4, rfl, rfl, rfl, h4, r4⟩ := trodAll_cons r3
  obtain ⟨rfl, rfl, rfl⟩ := trodAll_nil r4
  obtain rfl : args = #[v0, v1, v2, v3, v4] := by cases args; simp_all
  obtain ⟨rfl, rfl⟩ := trodVars_none hV
  obtain ⟨a0, len0, cap0, rfl⟩ := okWide_slice Ybaf.underlying22 (hval 0 22 v0 rfl rfl)
  have k0 := h0
  have lt0 : ∀ x ∈ p0, x.block < W.heap.size := by obtain ⟨m, hm⟩ := k0; exact DataW.trod_lt m _ _ _ hm
  obtain ⟨f, hl0, hc0, hb0, hz0⟩ : ∃ f : Nat → Int, len0 ≤ maxLen ∧ len0 ≤ cap0 ∧ BRow W.heap.size W a0 len0 f ∧ ∀ k : Nat, k < len0 → 0 ≤ f k ∧ f k ≤ 255 := by
    obtain ⟨fuel, hf⟩ := h0
    rcases open_ints Ybaf.underlying22 Ybaf.underlying5 (by kernel_rfl) hf with ⟨hcs, _⟩ | ⟨x, l, c, zs, hcs, _, hl, hm, hz, _, hcell, hwz⟩
    · simp [Value.cells] at hcs
      obtain ⟨rfl, rfl, rfl⟩ := hcs
      exact ⟨fun _ => 0, Nat.zero_le _, Nat.le_refl _, .inl rfl, fun k hk => by omega⟩
    · simp [Value.cells] at hcs
      obtain ⟨rfl, rfl, rfl⟩ := hcs
      have hz' : zs.length = cap0 := by simpa using hz
      refine ⟨fun k => zs.getD k 0, by omega, hl, ?_, fun k _ => by have := range_u8 hwz k; simpa using this⟩
      by_cases hpos : len0 = 0
      · exact .inl hpos
      · obtain ⟨b, off, sp⟩ := x
        have h0c := addr_of_cell (hcell 0 (by omega))
        have hsp : sp = none := h0c.1
        subst hsp
        exact .inr ⟨b, off, rfl, h0c.2, fun k hk => by rw [← Addr.add_lit]; exact hcell k (by omega)⟩
  obtain ⟨es, rfl, rfl, rfl⟩ := open_bool Ybaf.underlying4 (hval 1 4 v1 rfl rfl) h1
  obtain ⟨rep, rfl, rfl, rfl, wrep⟩ := open_string Ybaf.underlying9 (hval 2 9 v2 rfl rfl) h2
  obtain ⟨an, ln, cn, rfl⟩ := okWide_slice Ybaf.underlying23 (hval 3 23 v3 rfl rfl)
  have k3 := h3
  have lt3 : ∀ x ∈ p3, x.block < W.heap.size := by obtain ⟨m, hm⟩ := k3; exact DataW.trod_lt m _ _ _ hm
  obtain ⟨g, hl3, hb3⟩ : ∃ g : Nat → ByteArray, ln ≤ maxLen ∧ SRow W.heap.size W an ln g := by
    obtain ⟨fuel, hf⟩ := h3
    rcases open_strings Ybaf.underlying23 Ybaf.underlying9 (by kernel_rfl) hf with ⟨hcs, _⟩ | ⟨x, l, c, ss, hcs, _, hl, hm, hz, _, hcell, hws⟩
    · simp [Value.cells] at hcs
      obtain ⟨rfl, rfl, rfl⟩ := hcs
      exact ⟨fun _ => ByteArray.empty, Nat.zero_le _, .inl rfl⟩
    · simp [Value.cells] at hcs
      obtain ⟨rfl, rfl, rfl⟩ := hcs
      have hz' : ss.length = cn := by simpa using hz
      refine ⟨fun k => ss.getD k ByteArray.empty, by omega, ?_⟩
      by_cases hpos : ln = 0
      · exact .inl hpos
      · obtain ⟨b, off, sp⟩ := x
        have h0c := addr_of_cell (hcell 0 (by omega))
        have hsp : sp = none := h0c.1
        subst hsp
        exact .inr ⟨b, off, rfl, h0c.2, fun k hk => by rw [← Addr.add_lit]; exact hcell k (by omega)⟩
  obtain ⟨seq, rfl, rfl, rfl, wseq⟩ := open_int Ybaf.underlying24 (hval 4 24 v4 rfl rfl) h4
  clear hA0 hval0
  refine (law_all F.told a0 len0 cap0 f es rep an ln cn g seq W hF hl0 hl3 hc0 hb0 hb3 hz0).mono fun e W' ⟨he, bel⟩ => ?_
  subst he
  exact ⟨_, rfl, _, _, _, [], _, [], hW', trodAll_mk1 (shut_bool Ybaf.underlying4 _), (trodAll_cons_mk (Below.trod laidOut (by kernel_rfl) (of_decide_eq_true (by kernel_rfl)) k0 bel lt0) (trodAll_cons_mk (shut_bool Ybaf.underlying4 _) (trodAll_cons_mk (shut_string Ybaf.underlying9 wrep) (trodAll_cons_mk (Below.trod laidOut (by kernel_rfl) (of_decide_eq_true (by kernel_rfl)) k3 bel lt3) (trodAll_cons_mk (shut_int Ybaf.underlying24 wseq) trodAll_mk0))))), rfl, bel.frame _, fun h => by cases h⟩

theorem proved : Rows.LawS6395CWholeToldSaid :=
  Claim7.holds_of_told_any 3 Ybaf.f3 "fmt.errorf" [] [] _ _ _ (by kernel_rfl) rfl rfl rfl laidOut (by kernel_rfl) rfl ⟨rfl, rfl, rfl, rfl, rfl, rfl, rfl⟩ rfl rfl (by kernel_rfl) (by kernel_rfl) Ybaf.func3 (by kernel_rfl)
    (of_decide_eq_true (by kernel_rfl)) (of_decide_eq_true (by kernel_rfl)) stopsAre.symm rfl knobsAre.symm (by kernel_rfl)
    (by kernel_rfl) (by kernel_rfl) (by kernel_rfl) (by kernel_rfl) (by kernel_rfl) (by kernel_rfl) (by kernel_rfl) (by kernel_rfl) (by kernel_rfl) rfl (by kernel_rfl) rfl rfl
    rfl rfl
    rfl (by kernel_rfl) (by kernel_rfl) (by kernel_rfl) (by decide) (by kernel_rfl)
    (OpenClaim.moreEntering_of (by kernel_rfl) (by kernel_rfl) (by kernel_rfl) (by kernel_rfl) (by kernel_rfl) (by kernel_rfl) (by kernel_rfl) (by kernel_rfl) (by kernel_rfl) (by kernel_rfl))
    ⟨_, WideRow.started_initial, quietAt _⟩
    (fun os started _ H enc _ => lifted os started H enc)
end Go.Proofs.YbulkebkmFmt
