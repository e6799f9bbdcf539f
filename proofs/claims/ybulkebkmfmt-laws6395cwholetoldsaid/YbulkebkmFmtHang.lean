import Derived.Test.YbulkebkmFmtStop
import Derived.Deep.RegionWith
/-! (*numberReader).hanging (function 7). -/
namespace Go.Proofs.YbulkebkmFmt
open Go.RowKit Go.Extern.Stop Go.Stop Go.Extern
set_option linter.unusedVariables false

set_option maxHeartbeats 400000 in
theorem hang_err (lb : Nat) (t : TypeId) (x : Value) (rep : ByteArray) (an : Option Addr) (ln cn : Nat) (seq : Int) (w : World) (hln : ln ≤ 1048576)
    (h1 : w.cell? ⟨lb, 1, none⟩ = some (.iface t x)) :
    Calls Ybaf.prog 7 #[.pointer (some ⟨lb, 0, none⟩), .string rep, .slice an ln cn, .int .u64 seq] w fun e w' => e = .returned (.tuple #[.pointer none, .int .u8 0]) ∧ w' = w := by
  go_enter Ybaf.func7, Ybaf.ntmps7
  go_wp2_with (go_at_call 11; refine (uv11_err lb t x _ h1).mono ?_; rintro e w' ⟨rfl, rfl⟩)
  go_ret2
  exact ⟨rfl, rfl⟩

theorem uv11_fail0 (lb : Nat) (a : Option Addr) (len cap : Nat) (f : Nat → Int) (w : World) (hlen : len ≤ 1048576)
    (hl : Rdr w lb (.slice a len cap) .nilIface)
    (hc : BRow lb w a len f) (hz : ∀ k : Nat, k < len → 0 ≤ f k ∧ f k ≤ 255) (hr : rd f len 11 0 0 0 = none) :
    Calls Ybaf.prog 11 #[.pointer (some ⟨lb, 0, none⟩)] w fun e w' => e = .returned (.int .u64 0) ∧ Below lb w w' ∧ ∃ x, Rdr w' lb (.slice a len cap) (.iface 45 x) :=
  uv11_fail lb a len cap f 0 w hlen hl (by simpa using hc) (by simpa using hz) (by simpa using hr)

theorem uv11_ok0 (lb : Nat) (a : Option Addr) (len cap : Nat) (f : Nat → Int) (w : World) (hlen : len ≤ 1048576) (hcap : len ≤ cap)
    (hl : Rdr w lb (.slice a len cap) .nilIface)
    (hc : BRow lb w a len f) (hz : ∀ k : Nat, k < len → 0 ≤ f k ∧ f k ≤ 255) (v : Int) (k : Nat) (hr : rd f len 11 0 0 0 = some (v, k)) :
    Calls Ybaf.prog 11 #[.pointer (some ⟨lb, 0, none⟩)] w fun e w' => e = .returned (.int .u64 v) ∧ Below lb w w' ∧ ∃ a', Rdr w' lb (.slice a' (len - k) (cap - k)) .nilIface ∧ BRow lb w' a' (len - k) fun j => f (k + j) := by
  have H := uv11_ok lb a len cap f 0 w hlen hcap hl (by simpa using hc) (by simpa using hz) v k (by simpa using hr)
  simpa using H

set_option maxHeartbeats 400000 in
theorem hang_A (lb : Nat) (rep : ByteArray) (an : Option Addr) (ln cn : Nat) (seq : Int) (w : World) (hln : ln ≤ 1048576)
    (a : Option Addr) (len cap : Nat) (f : Nat → Int) (hlen : len ≤ 1048576)
    (hl : Rdr w lb (.slice a len cap) .nilIface)
    (hc : BRow lb w a len f) (hz : ∀ k : Nat, k < len → 0 ≤ f k ∧ f k ≤ 255) (hr : rd f len 11 0 0 0 = none) :
    Calls Ybaf.prog 7 #[.pointer (some ⟨lb, 0, none⟩), .string rep, .slice an ln cn, .int .u64 seq] w fun e w' => e = .returned (.tuple #[.pointer none, .int .u8 0]) ∧ Below lb w w' ∧ ∃ x, Rdr w' lb (.slice a len cap) (.iface 45 x) := by
  go_enter Ybaf.func7, Ybaf.ntmps7
  go_wp2_with fail
  refine (uv11_fail0 lb a len cap f w hlen hl hc hz hr).mono ?_
  rintro e w1 ⟨rfl, hb, x, hx⟩
  have h1 := hx.c1
  go_wp2_with fail
  refine (uv11_err lb 45 x _ h1).mono ?_
  rintro e w' ⟨rfl, rfl⟩
  go_wp2_with fail
  go_ret2
  exact ⟨rfl, hb, x, hx⟩

theorem wrap_small (q : Nat) (h : q ≤ 1048576) : IntKind.u64.wrap (q : Int) = q := by
  simp [IntKind.wrap, IntKind.signed, IntKind.bits]; omega

def sideOf (h : Int) : Int := IntKind.u8.wrap (bits BinOp.and IntKind.u64 h 1)

/-- What hanging comes to. -/
structure HR where
  ptr : Option (ByteArray × Int)
  sd : Int
  pos : Nat
  fail : Bool

def PtrIs (w : World) (lb : Nat) (v : Value) : Option (ByteArray × Int) → Prop
  | none => v = .pointer none
  | some (s, n) => ∃ g, v = .pointer (some ⟨g, 0, none⟩) ∧ lb < g ∧ g < w.heap.size ∧ w.cell? ⟨g, 0, none⟩ = some (.string s) ∧ w.cell? ⟨g, 1, none⟩ = some (.int .u64 n)

def ErIs (er : Value) : Bool → Prop
  | true => ∃ x, er = .iface 45 x
  | false => er = .nilIface

def HPost (lb : Nat) (w : World) (len cap : Nat) (f : Nat → Int) (r : HR) (e : Ending) (w' : World) : Prop :=
  ∃ v a' er, e = .returned (.tuple #[v, .int .u8 r.sd]) ∧ PtrIs w' lb v r.ptr ∧ Rdr w' lb (.slice a' (len - r.pos) (cap - r.pos)) er ∧ (BRow lb w' a' (len - r.pos) fun j => f (r.pos + j)) ∧ ErIs er r.fail ∧ Below lb w w'

/-- A slice of strings, each named. -/
def SRow (B : Nat) (w : World) (a : Option Addr) (len : Nat) (g : Nat → ByteArray) : Prop :=
  len = 0 ∨ ∃ b off, a = some ⟨b, off, none⟩ ∧ b < B ∧ ∀ k, k < len → w.cell? ⟨b, off + k, none⟩ = some (.string (g k))

theorem SRow.below {B : Nat} {w w' : World} {a : Option Addr} {len : Nat} {f : Nat → ByteArray} (h : SRow B w a len f) (hb : Below B w w') : SRow B w' a len f := by
  rcases h with h | ⟨b, off, ha, hB, h⟩
  · exact .inl h
  · exact .inr ⟨b, off, ha, hB, fun k hk => by rw [hb.cell (p := ⟨b, off + k, none⟩) hB]; exact h k hk⟩

set_option maxHeartbeats 400000 in
theorem hang_B (lb : Nat) (rep : ByteArray) (an : Option Addr) (ln cn : Nat) (seq : Int) (w : World) (hln : ln ≤ 1048576)
    (a : Option Addr) (len cap : Nat) (f : Nat → Int) (hlen : len ≤ 1048576) (hcap : len ≤ cap)
    (hl : Rdr w lb (.slice a len cap) .nilIface)
    (hc : BRow lb w a len f) (hz : ∀ k : Nat, k < len → 0 ≤ f k ∧ f k ≤ 255) (h : Int) (k : Nat) (hr : rd f len 11 0 0 0 = some (h, k)) (hh : 0 < h / 2) :
    Calls Ybaf.prog 7 #[.pointer (some ⟨lb, 0, none⟩), .string rep, .slice an ln cn, .int .u64 seq] w fun e w' => HPost lb w len cap f ⟨some (rep, IntKind.u64.wrap (seq - h / 2)), sideOf h, k, false⟩ e w' := by
  go_enter Ybaf.func7, Ybaf.ntmps7
  go_wp2_with fail
  refine (uv11_ok0 lb a len cap f w hlen hcap hl hc hz h k hr).mono ?_
  rintro e w1 ⟨rfl, hb, a', hx, hc1⟩
  go_wp2_with fail
  go_ret2
  have hsz := hx.sz
  refine ⟨_, a', .nilIface, rfl, ⟨w1.heap.size, rfl, hsz, by simp, by simp, by simp⟩, hx.alloc _, hc1.below ((Below.refl _ _).alloc (by omega) _), rfl, hb.alloc (by omega) _⟩

set_option maxHeartbeats 400000 in
theorem hang_C (lb : Nat) (rep : ByteArray) (an : Option Addr) (ln cn : Nat) (seq : Int) (w : World) (hln : ln ≤ 1048576)
    (a : Option Addr) (len cap : Nat) (f : Nat → Int) (hlen : len ≤ 1048576) (hcap : len ≤ cap)
    (hl : Rdr w lb (.slice a len cap) .nilIface)
    (hc : BRow lb w a len f) (hz : ∀ k : Nat, k < len → 0 ≤ f k ∧ f k ≤ 255) (h : Int) (k : Nat) (hr : rd f len 11 0 0 0 = some (h, k)) (hh : ¬ 0 < h / 2)
    (hr1 : rd f len 11 0 k 0 = none) :
    Calls Ybaf.prog 7 #[.pointer (some ⟨lb, 0, none⟩), .string rep, .slice an ln cn, .int .u64 seq] w fun e w' => HPost lb w len cap f ⟨none, sideOf h, k, true⟩ e w' := by
  have hk : 0 < k ∧ k ≤ len := by simpa using rd_le _ _ _ _ _ _ _ hr
  have ek : k + (len - k) = len := by omega
  have hr1' : rd f (k + (len - k)) 11 0 k 0 = none := by rw [ek]; exact hr1
  have hz' : ∀ j : Nat, j < k + (len - k) → 0 ≤ f j ∧ f j ≤ 255 := by rw [ek]; exact hz
  clear ek
  go_enter Ybaf.func7, Ybaf.ntmps7
  go_wp2_with fail
  refine (uv11_ok0 lb a len cap f w hlen hcap hl hc hz h k hr).mono ?_
  rintro e w1 ⟨rfl, hb, a', hx, hc1⟩
  go_wp2_with fail
  refine (uv11_fail lb a' (len - k) (cap - k) f k w1 (by omega) hx hc1 hz' hr1').mono ?_
  rintro e w2 ⟨rfl, hb2, x, hx2⟩
  go_wp2_with fail
  go_ret2
  refine ⟨_, a', _, rfl, rfl, hx2, hc1.below hb2, ⟨x, rfl⟩, hb.trans hb2⟩

set_option maxHeartbeats 400000 in
theorem hang_D0 (lb : Nat) (rep : ByteArray) (an : Option Addr) (ln cn : Nat) (seq : Int) (w : World) (hln : ln ≤ 1048576)
    (a : Option Addr) (len cap : Nat) (f : Nat → Int) (hlen : len ≤ 1048576) (hcap : len ≤ cap)
    (hl : Rdr w lb (.slice a len cap) .nilIface)
    (hc : BRow lb w a len f) (hz : ∀ k : Nat, k < len → 0 ≤ f k ∧ f k ≤ 255) (h : Int) (k : Nat) (hr : rd f len 11 0 0 0 = some (h, k)) (hh : ¬ 0 < h / 2)
    (p : Int) (k2 : Nat) (hr1 : rd f len 11 0 k 0 = some (p, k2)) (hp : ¬ (ln : Int) < p) (hp0 : ¬ 0 < p) :
    Calls Ybaf.prog 7 #[.pointer (some ⟨lb, 0, none⟩), .string rep, .slice an ln cn, .int .u64 seq] w fun e w' => HPost lb w len cap f ⟨none, sideOf h, k + k2, false⟩ e w' := by
  have hk : 0 < k ∧ k ≤ len := by simpa using rd_le _ _ _ _ _ _ _ hr
  have hk2 : 0 < k2 ∧ k + k2 ≤ len := by simpa using rd_le _ _ _ _ _ _ _ hr1
  have ek : k + (len - k) = len := by omega
  have hr1' : rd f (k + (len - k)) 11 0 k 0 = some (p, k2) := by rw [ek]; exact hr1
  have hz' : ∀ j : Nat, j < k + (len - k) → 0 ≤ f j ∧ f j ≤ 255 := by rw [ek]; exact hz
  clear ek
  go_enter Ybaf.func7, Ybaf.ntmps7
  go_wp2_with fail
  refine (uv11_ok0 lb a len cap f w hlen hcap hl hc hz h k hr).mono ?_
  rintro e w1 ⟨rfl, hb, a', hx, hc1⟩
  go_wp2_with fail
  refine (uv11_ok lb a' (len - k) (cap - k) f k w1 (by omega) (by omega) hx hc1 hz' p k2 hr1').mono ?_
  rintro e w2 ⟨rfl, hb2, a2, hx2, hc2⟩
  go_wp2_with fail
  go_ret2
  rw [Nat.sub_sub] at hx2 hc2
  rw [Nat.sub_sub] at hx2
  exact ⟨_, a2, _, rfl, rfl, hx2, hc2, rfl, hb.trans hb2⟩

set_option maxHeartbeats 800000 in
theorem hang_D2 (F : Interp) (lb : Nat) (rep : ByteArray) (an : Option Addr) (ln cn : Nat) (seq : Int) (w : World) (hF : F.answers w.tape) (hln : ln ≤ 1048576)
    (a : Option Addr) (len cap : Nat) (f : Nat → Int) (hlen : len ≤ 1048576) (hcap : len ≤ cap)
    (hl : Rdr w lb (.slice a len cap) .nilIface)
    (hc : BRow lb w a len f) (hz : ∀ k : Nat, k < len → 0 ≤ f k ∧ f k ≤ 255) (h : Int) (k : Nat) (hr : rd f len 11 0 0 0 = some (h, k)) (hh : ¬ 0 < h / 2)
    (p : Int) (k2 : Nat) (hr1 : rd f len 11 0 k 0 = some (p, k2)) (hp : (ln : Int) < p) :
    Calls Ybaf.prog 7 #[.pointer (some ⟨lb, 0, none⟩), .string rep, .slice an ln cn, .int .u64 seq] w fun e w' => HPost lb w len cap f ⟨none, sideOf h, k + k2, true⟩ e w' := by
  have hk : 0 < k ∧ k ≤ len := by simpa using rd_le _ _ _ _ _ _ _ hr
  have hk2 : 0 < k2 ∧ k + k2 ≤ len := by simpa using rd_le _ _ _ _ _ _ _ hr1
  have ek : k + (len - k) = len := by omega
  have hr1' : rd f (k + (len - k)) 11 0 k 0 = some (p, k2) := by rw [ek]; exact hr1
  have hz' : ∀ j : Nat, j < k + (len - k) → 0 ≤ f j ∧ f j ≤ 255 := by rw [ek]; exact hz
  clear ek
  go_enter Ybaf.func7, Ybaf.ntmps7
  go_wp2_with fail
  refine (uv11_ok0 lb a len cap f w hlen hcap hl hc hz h k hr).mono ?_
  rintro e w1 ⟨rfl, hb, a', hx, hc1⟩
  go_wp2_with fail
  refine (uv11_ok lb a' (len - k) (cap - k) f k w1 (by omega) (by omega) hx hc1 hz' p k2 hr1').mono ?_
  rintro e w2 ⟨rfl, hb2, a2, hx2, hc2⟩
  have hF2 : F.answers w2.tape := by rw [hb2.tape, hb.tape]; exact hF
  have hlc := hx2.c1
  have hlf := hx2.f1
  have hlz := hx2.sz
  go_wp2_with fail
  refine (errorf_any F w2.heap.size p ln (w2.alloc (.cells #[.iface 24 (.int .u64 p), .iface 3 (.int .i64 ln)] 20)) hF2 (by simp) (by simp)).mono ?_
  rintro e w3 ⟨x, rfl, hb3⟩
  have hx3 := hx2.alloc (.cells #[.iface 24 (.int .u64 p), .iface 3 (.int .i64 ln)] 20)
  have hx4 : Rdr w3 lb (.slice a2 (len - k - k2) (cap - k - k2)) .nilIface := by
    have hs := hx3.sz
    exact ⟨by rw [hb3.cell (p := ⟨lb, 0, none⟩) hs]; exact hx3.c0, by rw [hb3.cell (p := ⟨lb, 1, none⟩) hs]; exact hx3.c1, by rw [hb3.frozen (p := ⟨lb, 0, none⟩) hs]; exact hx3.f0, by rw [hb3.frozen (p := ⟨lb, 1, none⟩) hs]; exact hx3.f1, by have := hb3.size; omega⟩
  have hb4 : Below lb w2 w3 := ((Below.refl lb w2).alloc (by omega) _).trans (hb3.mono (by simp; omega))
  have hlc4 := hx4.c1
  have hlf4 := hx4.f1
  clear hlc hlf hb3 hx3
  go_wp2_with fail
  go_ret2
  rw [Nat.sub_sub] at hx4 hc2
  rw [Nat.sub_sub] at hx4
  have hb5 : Below lb w2 (w3.setCell ⟨lb, 1, none⟩ (.iface 45 x)) := hb4.setCell (p := ⟨lb, 1, none⟩) (Nat.le_refl _) _
  exact ⟨_, a2, _, rfl, rfl, hx4.set1 _, hc2.below hb5, ⟨x, rfl⟩, (hb.trans hb2).trans hb5⟩

set_option maxHeartbeats 800000 in
theorem hang_D1n (lb : Nat) (rep : ByteArray) (an : Option Addr) (ln cn : Nat) (g : Nat → ByteArray) (seq : Int) (w : World) (hln : ln ≤ 1048576)
    (hn : SRow lb w an ln g)
    (a : Option Addr) (len cap : Nat) (f : Nat → Int) (hlen : len ≤ 1048576) (hcap : len ≤ cap)
    (hl : Rdr w lb (.slice a len cap) .nilIface)
    (hc : BRow lb w a len f) (hz : ∀ k : Nat, k < len → 0 ≤ f k ∧ f k ≤ 255) (h : Int) (k : Nat) (hr : rd f len 11 0 0 0 = some (h, k)) (hh : ¬ 0 < h / 2)
    (p : Int) (k2 : Nat) (hr1 : rd f len 11 0 k 0 = some (p, k2)) (hp : ¬ (ln : Int) < p) (hp0 : 0 < p)
    (hr2 : rd f len 11 0 (k + k2) 0 = none) :
    Calls Ybaf.prog 7 #[.pointer (some ⟨lb, 0, none⟩), .string rep, .slice an ln cn, .int .u64 seq] w fun e w' => HPost lb w len cap f ⟨some (g (p - 1).toNat, 0), sideOf h, k + k2, true⟩ e w' := by
  have hk : 0 < k ∧ k ≤ len := by simpa using rd_le _ _ _ _ _ _ _ hr
  have hk2 : 0 < k2 ∧ k + k2 ≤ len := by simpa using rd_le _ _ _ _ _ _ _ hr1
  have ek : k + (len - k) = len := by omega
  have hr1' : rd f (k + (len - k)) 11 0 k 0 = some (p, k2) := by rw [ek]; exact hr1
  have hz' : ∀ j : Nat, j < k + (len - k) → 0 ≤ f j ∧ f j ≤ 255 := by rw [ek]; exact hz
  have ek2 : k + k2 + (len - k - k2) = len := by omega
  have hr2' : rd f (k + k2 + (len - k - k2)) 11 0 (k + k2) 0 = none := by rw [ek2]; exact hr2
  have hz2' : ∀ j : Nat, j < k + k2 + (len - k - k2) → 0 ≤ f j ∧ f j ≤ 255 := by rw [ek2]; exact hz
  clear ek ek2
  obtain ⟨q, rfl⟩ : ∃ q : Nat, p = (q : Int) + 1 := ⟨(p - 1).toNat, by omega⟩
  rw [show ((q : Int) + 1 - 1).toNat = q from by omega]
  rcases hn with hn | ⟨nb, noff, rfl, hnB, hn⟩
  · omega
  have hcell := hn q (by omega)
  have hqi : (q : Int) < (ln : Int) := by omega
  have hqn : q < ln := by omega
  go_enter Ybaf.func7, Ybaf.ntmps7
  go_wp2_with fail
  refine (uv11_ok0 lb a len cap f w hlen hcap hl hc hz h k hr).mono ?_
  rintro e w1 ⟨rfl, hb, a', hx, hc1⟩
  go_wp2_with fail
  refine (uv11_ok lb a' (len - k) (cap - k) f k w1 (by omega) (by omega) hx hc1 hz' _ k2 hr1').mono ?_
  rintro e w2 ⟨rfl, hb2, a2, hx2, hc2⟩
  have hcell2 : w2.cell? ⟨nb, noff + q, none⟩ = some (.string (g q)) := by rw [(hb.trans hb2).cell (p := ⟨nb, noff + q, none⟩) hnB]; exact hcell
  go_wp2_with fail
  have hm1 : IntKind.u64.wrap (q : Int) = q := wrap_small q (by omega)
  go_region_with (go_at_call 11; refine (uv11_fail lb a2 (len - k - k2) (cap - k - k2) f (k + k2) _ (by omega) hx2.drew (hc2.below (Below.refl _ _).drew) hz2' hr2').mono ?_; rintro e w3 ⟨rfl, hb3, x, hx3⟩; have hcell3 : w3.cell? ⟨nb, noff + q, none⟩ = some (.string (g q)) := (hb3.cell (p := ⟨nb, noff + q, none⟩) hnB).trans hcell2)
  all_goals
    go_wp2_with fail
    go_ret2
    rw [Nat.sub_sub] at hx3
    rw [Nat.sub_sub] at hx3
    rw [Nat.sub_sub] at hc2
    have hsz := hx3.sz
    have hb4 : Below lb w2 w3 := ((Below.refl lb w2).drew).trans hb3
    exact ⟨_, a2, _, rfl, ⟨w3.heap.size, rfl, hsz, by simp, by simp, by simp⟩, hx3.alloc _, (hc2.below hb4).below ((Below.refl _ _).alloc (by omega) _), ⟨x, rfl⟩, ((hb.trans hb2).trans hb4).alloc (by omega) _⟩

set_option maxHeartbeats 800000 in
theorem hang_D1s (lb : Nat) (rep : ByteArray) (an : Option Addr) (ln cn : Nat) (g : Nat → ByteArray) (seq : Int) (w : World) (hln : ln ≤ 1048576)
    (hn : SRow lb w an ln g)
    (a : Option Addr) (len cap : Nat) (f : Nat → Int) (hlen : len ≤ 1048576) (hcap : len ≤ cap)
    (hl : Rdr w lb (.slice a len cap) .nilIface)
    (hc : BRow lb w a len f) (hz : ∀ k : Nat, k < len → 0 ≤ f k ∧ f k ≤ 255) (h : Int) (k : Nat) (hr : rd f len 11 0 0 0 = some (h, k)) (hh : ¬ 0 < h / 2)
    (p : Int) (k2 : Nat) (hr1 : rd f len 11 0 k 0 = some (p, k2)) (hp : ¬ (ln : Int) < p) (hp0 : 0 < p)
    (n : Int) (k3 : Nat) (hr2 : rd f len 11 0 (k + k2) 0 = some (n, k3)) :
    Calls Ybaf.prog 7 #[.pointer (some ⟨lb, 0, none⟩), .string rep, .slice an ln cn, .int .u64 seq] w fun e w' => HPost lb w len cap f ⟨some (g (p - 1).toNat, n), sideOf h, k + k2 + k3, false⟩ e w' := by
  have hk : 0 < k ∧ k ≤ len := by simpa using rd_le _ _ _ _ _ _ _ hr
  have hk2 : 0 < k2 ∧ k + k2 ≤ len := by simpa using rd_le _ _ _ _ _ _ _ hr1
  have ek : k + (len - k) = len := by omega
  have hr1' : rd f (k + (len - k)) 11 0 k 0 = some (p, k2) := by rw [ek]; exact hr1
  have hz' : ∀ j : Nat, j < k + (len - k) → 0 ≤ f j ∧ f j ≤ 255 := by rw [ek]; exact hz
  have ek2 : k + k2 + (len - k - k2) = len := by omega
  have hr2' : rd f (k + k2 + (len - k - k2)) 11 0 (k + k2) 0 = some (n, k3) := by rw [ek2]; exact hr2
  have hz2' : ∀ j : Nat, j < k + k2 + (len - k - k2) → 0 ≤ f j ∧ f j ≤ 255 := by rw [ek2]; exact hz
  clear ek ek2
  obtain ⟨q, rfl⟩ : ∃ q : Nat, p = (q : Int) + 1 := ⟨(p - 1).toNat, by omega⟩
  rw [show ((q : Int) + 1 - 1).toNat = q from by omega]
  rcases hn with hn | ⟨nb, noff, rfl, hnB, hn⟩
  · omega
  have hcell := hn q (by omega)
  have hqi : (q : Int) < (ln : Int) := by omega
  have hqn : q < ln := by omega
  go_enter Ybaf.func7, Ybaf.ntmps7
  go_wp2_with fail
  refine (uv11_ok0 lb a len cap f w hlen hcap hl hc hz h k hr).mono ?_
  rintro e w1 ⟨rfl, hb, a', hx, hc1⟩
  go_wp2_with fail
  refine (uv11_ok lb a' (len - k) (cap - k) f k w1 (by omega) (by omega) hx hc1 hz' _ k2 hr1').mono ?_
  rintro e w2 ⟨rfl, hb2, a2, hx2, hc2⟩
  have hcell2 : w2.cell? ⟨nb, noff + q, none⟩ = some (.string (g q)) := by rw [(hb.trans hb2).cell (p := ⟨nb, noff + q, none⟩) hnB]; exact hcell
  go_wp2_with fail
  have hm1 : IntKind.u64.wrap (q : Int) = q := wrap_small q (by omega)
  go_region_with (go_at_call 11; refine (uv11_ok lb a2 (len - k - k2) (cap - k - k2) f (k + k2) _ (by omega) (by omega) hx2.drew (hc2.below (Below.refl _ _).drew) hz2' n k3 hr2').mono ?_; rintro e w3 ⟨rfl, hb3, a3, hx3, hc3⟩; have hcell3 : w3.cell? ⟨nb, noff + q, none⟩ = some (.string (g q)) := (hb3.cell (p := ⟨nb, noff + q, none⟩) hnB).trans hcell2)
  all_goals
    go_wp2_with fail
    go_ret2
    rw [show len - k - k2 - k3 = len - (k + k2 + k3) from by omega] at hx3 hc3
    rw [show cap - k - k2 - k3 = cap - (k + k2 + k3) from by omega] at hx3
    have hsz := hx3.sz
    have hb4 : Below lb w2 w3 := ((Below.refl lb w2).drew).trans hb3
    exact ⟨_, a3, _, rfl, ⟨w3.heap.size, rfl, hsz, by simp, by simp, by simp⟩, hx3.alloc _, hc3.below ((Below.refl _ _).alloc (by omega) _), rfl, ((hb.trans hb2).trans hb4).alloc (by omega) _⟩

/-- What hanging comes to, of the bytes, the names and the number handed in. -/
def hang (f : Nat → Int) (len : Nat) (rep : ByteArray) (g : Nat → ByteArray) (ln : Nat) (seq : Int) : HR :=
  match rd f len 11 0 0 0 with
  | none => ⟨none, 0, 0, true⟩
  | some (h, k) =>
    if 0 < h / 2 then ⟨some (rep, IntKind.u64.wrap (seq - h / 2)), sideOf h, k, false⟩
    else match rd f len 11 0 k 0 with
      | none => ⟨none, sideOf h, k, true⟩
      | some (p, k2) =>
        if (ln : Int) < p then ⟨none, sideOf h, k + k2, true⟩
        else if 0 < p then
          match rd f len 11 0 (k + k2) 0 with
          | none => ⟨some (g (p - 1).toNat, 0), sideOf h, k + k2, true⟩
          | some (n, k3) => ⟨some (g (p - 1).toNat, n), sideOf h, k + k2 + k3, false⟩
        else ⟨none, sideOf h, k + k2, false⟩

theorem hang_any (F : Interp) (lb : Nat) (rep : ByteArray) (an : Option Addr) (ln cn : Nat) (g : Nat → ByteArray) (seq : Int) (w : World) (hF : F.answers w.tape) (hln : ln ≤ 1048576)
    (hn : SRow lb w an ln g)
    (a : Option Addr) (len cap : Nat) (f : Nat → Int) (hlen : len ≤ 1048576) (hcap : len ≤ cap)
    (hl : Rdr w lb (.slice a len cap) .nilIface)
    (hc : BRow lb w a len f) (hz : ∀ k : Nat, k < len → 0 ≤ f k ∧ f k ≤ 255) :
    Calls Ybaf.prog 7 #[.pointer (some ⟨lb, 0, none⟩), .string rep, .slice an ln cn, .int .u64 seq] w fun e w' => HPost lb w len cap f (hang f len rep g ln seq) e w' := by
  cases hr : rd f len 11 0 0 0 with
  | none =>
    have e : hang f len rep g ln seq = ⟨none, 0, 0, true⟩ := by unfold hang; rw [hr]
    rw [e]
    refine (hang_A lb rep an ln cn seq w hln a len cap f hlen hl hc hz hr).mono ?_
    rintro e w' ⟨rfl, hb, x, hx⟩
    exact ⟨_, a, _, rfl, rfl, hx, by simpa using hc.below hb, ⟨x, rfl⟩, hb⟩
  | some r =>
    obtain ⟨h, k⟩ := r
    by_cases hh : 0 < h / 2
    · have e : hang f len rep g ln seq = ⟨some (rep, IntKind.u64.wrap (seq - h / 2)), sideOf h, k, false⟩ := by unfold hang; rw [hr]; exact if_pos hh
      rw [e]
      exact hang_B lb rep an ln cn seq w hln a len cap f hlen hcap hl hc hz h k hr hh
    · cases hr1 : rd f len 11 0 k 0 with
      | none =>
        have e : hang f len rep g ln seq = ⟨none, sideOf h, k, true⟩ := by unfold hang; rw [hr]; simp only []; rw [if_neg hh, hr1]
        rw [e]
        exact hang_C lb rep an ln cn seq w hln a len cap f hlen hcap hl hc hz h k hr hh hr1
      | some r1 =>
        obtain ⟨p, k2⟩ := r1
        by_cases hp : (ln : Int) < p
        · have e : hang f len rep g ln seq = ⟨none, sideOf h, k + k2, true⟩ := by unfold hang; rw [hr]; simp only []; rw [if_neg hh, hr1]; exact if_pos hp
          rw [e]
          exact hang_D2 F lb rep an ln cn seq w hF hln a len cap f hlen hcap hl hc hz h k hr hh p k2 hr1 hp
        · by_cases hp0 : 0 < p
          · cases hr2 : rd f len 11 0 (k + k2) 0 with
            | none =>
              have e : hang f len rep g ln seq = ⟨some (g (p - 1).toNat, 0), sideOf h, k + k2, true⟩ := by unfold hang; rw [hr]; simp only []; rw [if_neg hh, hr1]; simp only []; rw [if_neg hp, if_pos hp0, hr2]
              rw [e]
              exact hang_D1n lb rep an ln cn g seq w hln hn a len cap f hlen hcap hl hc hz h k hr hh p k2 hr1 hp hp0 hr2
            | some r2 =>
              obtain ⟨n, k3⟩ := r2
              have e : hang f len rep g ln seq = ⟨some (g (p - 1).toNat, n), sideOf h, k + k2 + k3, false⟩ := by unfold hang; rw [hr]; simp only []; rw [if_neg hh, hr1]; simp only []; rw [if_neg hp, if_pos hp0, hr2]
              rw [e]
              exact hang_D1s lb rep an ln cn g seq w hln hn a len cap f hlen hcap hl hc hz h k hr hh p k2 hr1 hp hp0 n k3 hr2
          · have e : hang f len rep g ln seq = ⟨none, sideOf h, k + k2, false⟩ := by unfold hang; rw [hr]; simp only []; rw [if_neg hh, hr1]; simp only []; rw [if_neg hp, if_neg hp0]
            rw [e]
            exact hang_D0 lb rep an ln cn seq w hln a len cap f hlen hcap hl hc hz h k hr hh p k2 hr1 hp hp0
end Go.Proofs.YbulkebkmFmt
