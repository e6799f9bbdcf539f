import Derived.Test.YbulkebkmFmtRows
import Derived.WalkKit
import Derived.WalkSpells
import Derived.WalkLawsBesides
/-! The plain varint reader 'rd', and that zzs6395cread (function 8) and encoding/binary.Uvarint (function 13) both compute it. -/
namespace Go.Proofs.YbulkebkmFmt
open Go.RowKit

def fin (v c : Int) (k : Nat) : Int := bits BinOp.or IntKind.u64 v (IntKind.u64.wrap (c * 2 ^ (7 * k)))
def stp (v c : Int) (k : Nat) : Int := bits BinOp.or IntKind.u64 v (IntKind.u64.wrap (IntKind.u64.wrap (bits BinOp.and IntKind.u8 c 127) * 2 ^ (7 * k)))

/-- One unsigned varint of f from at0 on, f's elements being len many; i bytes read, v gathered. The answer: the value, and how many bytes. -/
def rd (f : Nat → Int) (len : Nat) : Nat → Int → Nat → Nat → Option (Int × Nat)
  | 0, _, _, _ => none
  | fuel + 1, v, at0, i =>
    if at0 + i < len then
      if i = 10 then none
      else if f (at0 + i) < 128 then (if i = 9 ∧ 1 < f (at0 + i) then none else some (fin v (f (at0 + i)) i, i + 1))
      else rd f len fuel (stp v (f (at0 + i)) i) at0 (i + 1)
    else none

theorem rd_end (f : Nat → Int) (len fuel : Nat) (v : Int) (at0 i : Nat) (h : ¬ at0 + i < len) : rd f len fuel v at0 i = none := by
  cases fuel <;> simp [rd, h]
theorem rd_ten (f : Nat → Int) (len fuel : Nat) (v : Int) (at0 : Nat) : rd f len fuel v at0 10 = none := by
  cases fuel <;> simp [rd]
theorem rd_over (f : Nat → Int) (len fuel : Nat) (v : Int) (at0 i : Nat) (h9 : i = 9) (h1 : 1 < f (at0 + i)) (h2 : f (at0 + i) < 128) : rd f len fuel v at0 i = none := by
  cases fuel <;> simp [rd, h9]
  subst h9; simp [h1, h2]
theorem rd_last (f : Nat → Int) (len fuel : Nat) (v : Int) (at0 i : Nat) (h : at0 + i < len) (h10 : i ≠ 10) (h9 : ¬ (i = 9 ∧ 1 < f (at0 + i))) (h2 : f (at0 + i) < 128) :
    rd f len (fuel + 1) v at0 i = some (fin v (f (at0 + i)) i, i + 1) := by
  rw [rd, if_pos h, if_neg h10, if_pos h2, if_neg h9]
theorem rd_more (f : Nat → Int) (len fuel : Nat) (v : Int) (at0 i : Nat) (h : at0 + i < len) (h10 : i ≠ 10) (h2 : 128 ≤ f (at0 + i)) :
    rd f len (fuel + 1) v at0 i = rd f len fuel (stp v (f (at0 + i)) i) at0 (i + 1) := by
  rw [rd, if_pos h, if_neg h10, if_neg (by omega)]

/-- What is read lies within. -/
theorem rd_le (f : Nat → Int) (len fuel : Nat) (v : Int) (at0 i : Nat) (r : Int × Nat) (h : rd f len fuel v at0 i = some r) : 0 < r.2 ∧ at0 + r.2 ≤ len := by
  induction fuel generalizing v i with
  | zero => simp [rd] at h
  | succ n ih =>
    rw [rd] at h
    by_cases h1 : at0 + i < len
    · rw [if_pos h1] at h
      by_cases h10 : i = 10
      · rw [if_pos h10] at h; cases h
      · rw [if_neg h10] at h
        by_cases h2 : f (at0 + i) < 128
        · rw [if_pos h2] at h
          by_cases h9 : i = 9 ∧ 1 < f (at0 + i)
          · rw [if_pos h9] at h; cases h
          · rw [if_neg h9] at h; cases h; exact ⟨by simp, by simp; omega⟩
        · rw [if_neg h2] at h; exact ih _ _ h
    · rw [if_neg h1] at h; cases h

theorem fin9 (v c : Int) (h0 : 0 ≤ c) (h1 : c ≤ 1) : bits BinOp.or IntKind.u64 v (c * 9223372036854775808) = fin v c 9 := by
  have : c = 0 ∨ c = 1 := by omega
  unfold fin
  rcases this with rfl | rfl <;> rfl

/-- What function 8 hands back. -/
def out8 (at0 : Nat) : Option (Int × Nat) → Value
  | none => .tuple #[.int .u64 0, .int .i64 at0, .bool false]
  | some (v, k) => .tuple #[.int .u64 v, .int .i64 (at0 + k : Nat), .bool true]

theorem ret8n {at0 : Nat} {r : Option (Int × Nat)} (h : r = none) : Ending.returned (.tuple #[.int .u64 0, .int .i64 at0, .bool false]) = .returned (out8 at0 r) := by rw [h]; rfl
theorem ret8s {at0 k : Nat} {v v' : Int} {n : Int} {r : Option (Int × Nat)} (h : r = some (v, k)) (hv : v' = v) (hn : n = (at0 + k : Nat)) : Ending.returned (.tuple #[.int .u64 v', .int .i64 n, .bool true]) = .returned (out8 at0 r) := by rw [h, hv, hn]; rfl

set_option maxHeartbeats 400000 in
theorem read_row (b off len cap : Nat) (f : Nat → Int) (at0 : Nat) (w : World) (hlen : len ≤ 1048576) (hat : at0 ≤ len)
    (hc : ∀ k, k < len → w.cell? ⟨b, off + k, none⟩ = some (.int .u8 (f k))) (hz : ∀ k : Nat, k < len → 0 ≤ f k ∧ f k ≤ 255) :
    Calls Ybaf.prog 8 #[.slice (some ⟨b, off, none⟩) len cap, .int .i64 at0] w fun e w' => e = .returned (out8 at0 (rd f len 11 0 at0 0)) ∧ w' = w := by
  go_enter Ybaf.func8, Ybaf.ntmps8
  go_wp2
  go_loop [7, 8, 9] (fun v s i => ∃ (k : Nat) (vv : Int), k ≤ 10 ∧ at0 + k ≤ len ∧ i = .int .i64 k ∧ s = .int .u64 (7 * k) ∧ v = .int .u64 vv ∧ Hid (rd f len 11 0 at0 0 = rd f len (10 - k + 1) vv at0 k)) (fun _ _ i => len - (intOf i).toNat)
  case atStart => exact ⟨0, 0, by omega, by omega, rfl, rfl, rfl, rfl⟩
  case round =>
    obtain ⟨k, vv, hk, hl, rfl, rfl, rfl, HR⟩ := hrel
    by_cases hlt : at0 + k < len
    · have hcell := hc (at0 + k) hlt
      have hb := hz (at0 + k) hlt
      clear hc hz
      go_wp2
      · go_ret3
        have h10 : k = 10 := by have : ((k : Int) == 10) = true := by assumption
                                simp at this; omega
        exact ⟨ret8n (by rw [HR.out, h10]; exact rd_ten ..), rfl⟩
      · go_ret3
        have h9 : k = 9 := by omega
        exact ⟨ret8n (by rw [HR.out]; exact rd_over f len _ vv at0 k h9 (by assumption) (by assumption)), rfl⟩
      · go_ret3
        have h9 : k = 9 := by omega
        refine ⟨ret8s (k := k + 1) (v := fin vv (f (at0 + k)) k) (by rw [HR.out]; exact rd_last f len _ vv at0 k hlt (by omega) (by omega) (by assumption)) ?_ (by omega), rfl⟩
        rw [h9]; rw [h9] at hb; exact fin9 _ _ hb.1 (by subst h9; assumption)
      · go_ret3
        have h10 : k ≠ 10 := by have : ((k : Int) == 10) = false := by assumption
                                simp at this; omega
        exact ⟨ret8s (k := k + 1) (v := fin vv (f (at0 + k)) k) (by rw [HR.out]; exact rd_last f len _ vv at0 k hlt h10 (by omega) (by assumption)) rfl (by omega), rfl⟩
      · have h10 : k ≠ 10 := by have : ((k : Int) == 10) = false := by assumption
                                simp at this; omega
        go_round
        case rel =>
          refine ⟨k + 1, stp vv (f (at0 + k)) k, by omega, by omega, by go_num, by go_num, rfl, ?_⟩
          show _ = _
          rw [HR.out, rd_more f len _ vv at0 k hlt h10 (by assumption)]
          rw [show 10 - (k + 1) + 1 = 10 - k from by omega]
        case measure => simp [intOf]; omega
    · go_wp2
      go_ret3
      exact ⟨ret8n (by rw [HR.out]; exact rd_end f len _ vv at0 k hlt), rfl⟩

/-- WHAT THE WALK IS TOLD OF A SLICE OF BYTES: it has no element, or it leads to a row of cells. -/
def BRow (B : Nat) (w : World) (a : Option Addr) (len : Nat) (f : Nat → Int) : Prop :=
  len = 0 ∨ ∃ b off, a = some ⟨b, off, none⟩ ∧ b < B ∧ ∀ k, k < len → w.cell? ⟨b, off + k, none⟩ = some (.int .u8 (f k))

theorem BRow.below {B : Nat} {w w' : World} {a : Option Addr} {len : Nat} {f : Nat → Int} (h : BRow B w a len f) (hb : Below B w w') : BRow B w' a len f := by
  rcases h with h | ⟨b, off, ha, hB, h⟩
  · exact .inl h
  · exact .inr ⟨b, off, ha, hB, fun k hk => by rw [hb.cell (p := ⟨b, off + k, none⟩) hB]; exact h k hk⟩
theorem BRow.mono {B B' : Nat} {w : World} {a : Option Addr} {len : Nat} {f : Nat → Int} (h : BRow B w a len f) (hb : B ≤ B') : BRow B' w a len f := by
  rcases h with h | ⟨b, off, ha, hB, h⟩
  · exact .inl h
  · exact .inr ⟨b, off, ha, by omega, h⟩

set_option maxHeartbeats 400000 in
theorem read_empty (a : Option Addr) (cap : Nat) (f : Nat → Int) (w : World) :
    Calls Ybaf.prog 8 #[.slice a (0 : Nat) cap, .int .i64 0] w fun e w' => e = .returned (out8 0 (rd f 0 11 0 0 0)) ∧ w' = w := by
  go_enter Ybaf.func8, Ybaf.ntmps8
  go_wp2
  refine wp_loop_rounds 1 ?_
  rw [rounds_succ]
  go_wp2
  go_ret3
  exact ⟨ret8n (rd_end f 0 _ 0 0 0 (by omega)), rfl⟩

theorem read_any (B : Nat) (a : Option Addr) (len cap : Nat) (f : Nat → Int) (at0 : Nat) (w : World) (hlen : len ≤ 1048576) (hat : at0 ≤ len)
    (hc : BRow B w a len f) (hz : ∀ k : Nat, k < len → 0 ≤ f k ∧ f k ≤ 255) :
    Calls Ybaf.prog 8 #[.slice a len cap, .int .i64 at0] w fun e w' => e = .returned (out8 at0 (rd f len 11 0 at0 0)) ∧ w' = w := by
  rcases hc with rfl | ⟨b, off, rfl, _, hc⟩
  · obtain rfl : at0 = 0 := by omega
    exact read_empty a cap f w
  · exact read_row b off len cap f at0 w hlen hat hc hz

/-- What Uvarint hands back: the value and how many bytes; or 0 and a number that is not above 0. -/
def Out13 (r : Option (Int × Nat)) (e : Ending) : Prop :=
  match r with
  | none => ∃ m : Int, m ≤ 0 ∧ e = .returned (.tuple #[.int .u64 0, .int .i64 m])
  | some (v, k) => e = .returned (.tuple #[.int .u64 v, .int .i64 (k : Nat)])

theorem ret13n {m : Int} {r : Option (Int × Nat)} (h : r = none) (hm : m ≤ 0) : Out13 r (.returned (.tuple #[.int .u64 0, .int .i64 m])) := by rw [h]; exact ⟨m, hm, rfl⟩
theorem ret13s {k : Nat} {v v' : Int} {n : Int} {r : Option (Int × Nat)} (h : r = some (v, k)) (hv : v' = v) (hn : n = (k : Nat)) : Out13 r (.returned (.tuple #[.int .u64 v', .int .i64 n])) := by rw [h, hv, hn]; exact rfl

set_option maxHeartbeats 400000 in
theorem uv_row (b off len cap : Nat) (f : Nat → Int) (p : Nat) (w : World) (hlen : len ≤ 1048576)
    (hc : ∀ k, k < len → w.cell? ⟨b, off + k, none⟩ = some (.int .u8 (f (p + k)))) (hz : ∀ k : Nat, k < p + len → 0 ≤ f k ∧ f k ≤ 255) :
    Calls Ybaf.prog 13 #[.slice (some ⟨b, off, none⟩) len cap] w fun e w' => Out13 (rd f (p + len) 11 0 p 0) e ∧ w' = w := by
  go_enter Ybaf.func13, Ybaf.ntmps13
  go_wp2
  go_loop [4, 5, 10] (fun v s i => ∃ (k : Nat) (vv : Int), k ≤ 10 ∧ k ≤ len ∧ i = .int .i64 k ∧ s = .int .u64 (7 * k) ∧ v = .int .u64 vv ∧ Hid (rd f (p + len) 11 0 p 0 = rd f (p + len) (10 - k + 1) vv p k)) (fun _ _ i => len - (intOf i).toNat)
  case atStart => exact ⟨0, 0, by omega, by omega, rfl, rfl, rfl, rfl⟩
  case round =>
    obtain ⟨k, vv, hk, hl, rfl, rfl, rfl, HR⟩ := hrel
    by_cases hlt : k < len
    · have hcell := hc k hlt
      have hb := hz (p + k) (by omega)
      clear hc hz
      go_wp2
      · go_ret2
        have h10 : k = 10 := by have : ((k : Int) == 10) = true := by assumption
                                simp at this; omega
        exact ⟨ret13n (by rw [HR.out, h10]; exact rd_ten ..) (by omega), rfl⟩
      · go_ret2
        have h9 : k = 9 := by omega
        exact ⟨ret13n (by rw [HR.out]; exact rd_over f _ _ vv p k h9 (by assumption) (by assumption)) (by omega), rfl⟩
      · go_ret2
        have h9 : k = 9 := by omega
        refine ⟨ret13s (k := k + 1) (v := fin vv (f (p + k)) k) (by rw [HR.out]; exact rd_last f _ _ vv p k (by omega) (by omega) (by omega) (by assumption)) ?_ (by omega), rfl⟩
        rw [h9]; rw [h9] at hb; exact fin9 _ _ hb.1 (by subst h9; assumption)
      · go_ret2
        have h10 : k ≠ 10 := by have : ((k : Int) == 10) = false := by assumption
                                simp at this; omega
        exact ⟨ret13s (k := k + 1) (v := fin vv (f (p + k)) k) (by rw [HR.out]; exact rd_last f _ _ vv p k (by omega) h10 (by omega) (by assumption)) rfl (by omega), rfl⟩
      · have h10 : k ≠ 10 := by have : ((k : Int) == 10) = false := by assumption
                                simp at this; omega
        go_round
        case rel =>
          refine ⟨k + 1, stp vv (f (p + k)) k, by omega, by omega, by go_num, by go_num, rfl, ?_⟩
          show _ = _
          rw [HR.out, rd_more f _ _ vv p k (by omega) h10 (by assumption)]
          rw [show 10 - (k + 1) + 1 = 10 - k from by omega]
        case measure => simp [intOf]; omega
    · go_wp2
      go_ret2
      exact ⟨ret13n (by rw [HR.out]; exact rd_end f _ _ vv p k (by omega)) (by omega), rfl⟩

set_option maxHeartbeats 400000 in
theorem uv_empty (a : Option Addr) (cap : Nat) (f : Nat → Int) (p : Nat) (w : World) :
    Calls Ybaf.prog 13 #[.slice a (0 : Nat) cap] w fun e w' => Out13 (rd f (p + 0) 11 0 p 0) e ∧ w' = w := by
  go_enter Ybaf.func13, Ybaf.ntmps13
  go_wp2
  refine wp_loop_rounds 1 ?_
  rw [rounds_succ]
  go_wp2
  go_ret2
  exact ⟨ret13n (rd_end f _ _ 0 p 0 (by omega)) (by omega), rfl⟩

theorem uv_any (B : Nat) (a : Option Addr) (len cap : Nat) (f : Nat → Int) (p : Nat) (w : World) (hlen : len ≤ 1048576)
    (hc : BRow B w a len fun k => f (p + k)) (hz : ∀ k : Nat, k < p + len → 0 ≤ f k ∧ f k ≤ 255) :
    Calls Ybaf.prog 13 #[.slice a len cap] w fun e w' => Out13 (rd f (p + len) 11 0 p 0) e ∧ w' = w := by
  rcases hc with rfl | ⟨b, off, rfl, _, hc⟩
  · exact uv_empty a cap f p w
  · exact uv_row b off len cap f p w hlen hc hz
end Go.Proofs.YbulkebkmFmt
