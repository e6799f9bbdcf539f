import Derived.Test.YbulkebneLocks
import Derived.WalkKit
import Derived.WalkSpells
import Derived.WalkLawsBesides
import Derived.Laws.IdiomCopy
import Derived.Laws.LoneSync
import Derived.Deep.QuietTactic
import Derived.BigQuiet
import Derived.Lib.Walk
/-! For LawS6400AWhole: zzs6400astate (5), zzs6400asame (11), TryLock (9), copy at elements of two cells. -/
namespace Go.Proofs.Ybulkebne
open Go.RowKit
set_option linter.unusedVariables false

def st (x : Int) : ByteArray := if x % 3 = 0 then ⟨#[99, 108, 111, 115, 101, 100]⟩ else if x % 3 = 1 then ⟨#[111, 112, 101, 110]⟩ else ⟨#[104, 97, 108, 102, 45, 111, 112, 101, 110]⟩

set_option maxHeartbeats 400000 in
theorem state_any (x : Int) (h0 : 0 ≤ x) (h1 : x ≤ 255) (w : World) :
    Calls Yba.prog 5 #[.int .u8 x] w fun e w' => e = .returned (.string (st x)) ∧ w' = w := by
  unfold st
  by_cases e0 : x % 3 = 0
  · rw [if_pos e0]
    go_enter Yba.func5, Yba.ntmps5
    go_wp2
    go_ret
    exact ⟨rfl, rfl⟩
  · rw [if_neg e0]
    by_cases e1 : x % 3 = 1
    · rw [if_pos e1]
      go_enter Yba.func5, Yba.ntmps5
      go_wp2
      go_ret
      exact ⟨rfl, rfl⟩
    · rw [if_neg e1]
      go_enter Yba.func5, Yba.ntmps5
      go_wp2
      go_ret
      exact ⟨rfl, rfl⟩

theorem copy2 {P : Program} (w : World) (dT sT ty elem : TypeId) (b o dLen dCap : Nat) (a : Addr) (sLen sCap : Nat) (cs : List Value) (n : Nat)
    (hu : P.underlying dT = some (.slice elem)) (hs : (P.info? elem).map (·.size) = some 2) (hn : n = Nat.min sLen dLen) (hl2 : cs.length = n * 2)
    (hsrc : ∀ j v, cs[j]? = some v → w.cell? (a.add j) = some v) (hc : ∀ j, j < cs.length → (w.cell? ⟨b, o + j, none⟩).isSome = true) (hf : ∀ j, j < cs.length → w.frozen? ⟨b, o + j, none⟩ = false) (h1 : ∀ v ∈ cs, v.oneCell' = true) :
    (Builtin.copy_ #[dT, sT] ty #[.slice (some ⟨b, o, none⟩) dLen dCap, .slice (some a) sLen sCap]).run P w = .ok (goInt n) (w.setCells b o cs) := by
  have hl := run_loadCells_list (P := P) w a cs hsrc
  have hst := run_storeCells_cells (P := P) b o cs 0 w (by simpa using hc) (by simpa using hf) h1
  rw [hl2] at hl
  cases hq : P.info? elem with
  | none => simp [hq] at hs
  | some i =>
    have hi : i.size = 2 := by simpa [hq] using hs
    simp [Builtin.copy_, run_underlying hu, Builtin.lenOf, Builtin.firstCells, sizeOf, typeInfo, hq, hi, ← hn, hl, hst]

set_option maxRecDepth 100000 in
set_option maxHeartbeats 800000 in
theorem same_row (b o b' o' n c c' : Nat) (h : Nat → ByteArray) (w : World) (hn : n ≤ 65536) (h1 : ∀ k, k < n * 2 → w.cell? ⟨b, o + k, none⟩ = some (.string (h k))) (h2 : ∀ k, k < n * 2 → w.cell? ⟨b', o' + k, none⟩ = some (.string (h k))) :
    Calls Yba.prog 11 #[.slice (some ⟨b, o, none⟩) n c, .slice (some ⟨b', o', none⟩) n c'] w fun e w' => e = .returned (.bool true) ∧ ∃ q, w' = w.drewN q := by
  go_enter Yba.func11, Yba.ntmps11
  go_wp2
  go_loopw [13] (fun i wr => ∃ k q : Nat, k ≤ n ∧ i = .int .i64 k ∧ wr = w.drewN q) (fun i _ => n - (RowKit.intOf i).toNat)
  case atStart => exact ⟨0, 0, by omega, rfl, rfl⟩
  case round =>
    obtain ⟨k, q, hk, rfl, rfl⟩ := hrel
    by_cases hlt : k < n
    · have e1 := h1 (k * 2) (by omega)
      have e2 := h1 (k * 2 + 1) (by omega)
      have e3 := h2 (k * 2) (by omega)
      have e4 := h2 (k * 2 + 1) (by omega)
      rw [← Nat.add_assoc] at e2 e4
      have hki : (k : Int) < (n : Int) := by omega
      go_wp2
      go_quiet (fail)
      go_wp2
      go_roundw
      case rel => exact ⟨k + 1, q + nq, by omega, by go_num, rfl⟩
      case measure => simp [RowKit.intOf]; omega
    · go_wp2
      go_ret
      exact ⟨rfl, q, rfl⟩

set_option maxRecDepth 100000 in
set_option maxHeartbeats 800000 in
theorem same_empty (a a' : Option Addr) (c c' : Nat) (w : World) :
    Calls Yba.prog 11 #[.slice a (0 : Nat) c, .slice a' (0 : Nat) c'] w fun e w' => e = .returned (.bool true) ∧ ∃ q, w' = w.drewN q := by
  go_enter Yba.func11, Yba.ntmps11
  go_wp2
  refine wp_loop_rounds 1 ?_
  rw [rounds_succ]
  go_wp2
  go_ret
  exact ⟨rfl, 0, rfl⟩

/-- A slice of changes (two strings an element): none, or a row of cells. -/
def CRow (B : Nat) (w : World) (a : Option Addr) (n : Nat) (h : Nat → ByteArray) : Prop :=
  n = 0 ∨ ∃ b off, a = some ⟨b, off, none⟩ ∧ b < B ∧ ∀ k, k < n * 2 → w.cell? ⟨b, off + k, none⟩ = some (.string (h k))

theorem CRow.below {B : Nat} {w w' : World} {a : Option Addr} {n : Nat} {h : Nat → ByteArray} (H : CRow B w a n h) (hb : Below B w w') : CRow B w' a n h := by
  rcases H with H | ⟨b, off, ha, hB, H⟩
  · exact .inl H
  · exact .inr ⟨b, off, ha, hB, fun k hk => by rw [hb.cell (p := ⟨b, off + k, none⟩) hB]; exact H k hk⟩

theorem same_any (B : Nat) (a a' : Option Addr) (n c c' : Nat) (h : Nat → ByteArray) (w : World) (hn : n ≤ 65536) (h1 : CRow B w a n h) (h2 : CRow B w a' n h) :
    Calls Yba.prog 11 #[.slice a n c, .slice a' n c'] w fun e w' => e = .returned (.bool true) ∧ ∃ q, w' = w.drewN q := by
  rcases h1 with rfl | ⟨b, o, rfl, _, h1⟩
  · exact same_empty a a' c c' w
  · rcases h2 with rfl | ⟨b', o', rfl, _, h2⟩
    · exact same_empty _ _ c c' w
    · exact same_row b o b' o' n c c' h w hn h1 h2

set_option maxRecDepth 100000 in
set_option maxHeartbeats 800000 in
theorem trylock_free (a : Addr) (w : World) (hc : w.cell? a = some (.int .i32 0)) (hz : w.frozen? a = false) :
    Calls Yba.prog 9 #[.pointer (some a)] w fun e w' => e = .returned (.bool true) ∧ w' = w.setCell a (.int .i32 1) := by
  have hd := Go.MuLone.disable muLib
  have he := Go.MuLone.enable muLib
  have ha := Go.MuLone.acquire muLib a
  go_enter Yba.func9, Yba.ntmps9
  have hcas : ∀ y : Int, (callFunc 18 #[.pointer (some a), .int .i32 0, .int .i32 y]).run Yba.prog w = .ok (.value (.bool true)) (w.setCell a (.int .i32 y)) := fun y => run_call_cas_hit Yba.func18 (by kernel_rfl) (by kernel_rfl) (by kernel_rfl) .i32 (by kernel_rfl) hc hz
  have hb5 : (bits BinOp.and IntKind.i32 0 5 != 0) = false := by decide
  have hb1 : bits BinOp.or IntKind.i32 0 1 = 1 := by decide
  have hcv := run_convert_to_unsafe (P := Yba.prog) (src := 89) (dst := 33) Yba.underlying89 Yba.underlying33 (by kernel_rfl) (World.cell?_setCell_same w a (.int .i32 1) hc)
  go_wp2
  go_ret
  exact ⟨rfl, rfl⟩
end Go.Proofs.Ybulkebne
