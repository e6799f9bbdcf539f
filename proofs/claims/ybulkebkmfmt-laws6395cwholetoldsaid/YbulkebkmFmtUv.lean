import Derived.Test.YbulkebkmFmtRead
/-! errors.New (function 6); (*numberReader).uvarint (function 11), by three cases. -/
namespace Go.Proofs.YbulkebkmFmt
open Go.RowKit

set_option maxHeartbeats 400000 in
theorem new_any (s : ByteArray) (w : World) :
    Calls Ybaf.prog 6 #[.string s] w fun e w' => e = .returned (.iface 45 (.pointer (some ⟨w.heap.size, 0, none⟩))) ∧ w' = w.alloc (.cells #[.string s] 47) := by
  go_enter Ybaf.func6, Ybaf.ntmps6
  go_wp2
  go_ret
  exact ⟨rfl, rfl⟩

set_option maxHeartbeats 400000 in
theorem uv11_err (lb : Nat) (t : TypeId) (x : Value) (w : World)
    (h1 : w.cell? ⟨lb, 1, none⟩ = some (.iface t x)) :
    Calls Ybaf.prog 11 #[.pointer (some ⟨lb, 0, none⟩)] w fun e w' => e = .returned (.int .u64 0) ∧ w' = w := by
  go_enter Ybaf.func11, Ybaf.ntmps11
  go_wp2
  go_ret
  exact ⟨rfl, rfl⟩

/-- The reader in memory: its bytes left, its error; its cells can be written. -/
structure Rdr (w : World) (lb : Nat) (s er : Value) : Prop where
  c0 : w.cell? ⟨lb, 0, none⟩ = some s
  c1 : w.cell? ⟨lb, 1, none⟩ = some er
  f0 : w.frozen? ⟨lb, 0, none⟩ = false
  f1 : w.frozen? ⟨lb, 1, none⟩ = false
  sz : lb < w.heap.size

theorem Rdr.drew {w : World} {lb : Nat} {s er : Value} (h : Rdr w lb s er) : Rdr w.drew lb s er := ⟨h.c0, h.c1, h.f0, h.f1, h.sz⟩
theorem Rdr.alloc {w : World} {lb : Nat} {s er : Value} (h : Rdr w lb s er) (o : Obj) : Rdr (w.alloc o) lb s er := by
  have hb := (Below.refl w.heap.size w).alloc (Nat.le_refl _) o
  exact ⟨by rw [hb.cell (p := ⟨lb, 0, none⟩) h.sz]; exact h.c0, by rw [hb.cell (p := ⟨lb, 1, none⟩) h.sz]; exact h.c1, by rw [hb.frozen (p := ⟨lb, 0, none⟩) h.sz]; exact h.f0, by rw [hb.frozen (p := ⟨lb, 1, none⟩) h.sz]; exact h.f1, by have := h.sz; simp; omega⟩
theorem Rdr.set0 {w : World} {lb : Nat} {s er : Value} (h : Rdr w lb s er) (s' : Value) : Rdr (w.setCell ⟨lb, 0, none⟩ s') lb s' er := by
  obtain ⟨c0, c1, f0, f1, sz⟩ := h
  exact ⟨World.cell?_setCell_same _ _ _ c0, (World.cell?_setCell_other _ _ _ _ (by simp)).trans c1, by simp [f0], by simp [f1], by simpa using sz⟩
theorem Rdr.set1 {w : World} {lb : Nat} {s er : Value} (h : Rdr w lb s er) (e' : Value) : Rdr (w.setCell ⟨lb, 1, none⟩ e') lb s e' := by
  obtain ⟨c0, c1, f0, f1, sz⟩ := h
  exact ⟨(World.cell?_setCell_other _ _ _ _ (by simp)).trans c0, World.cell?_setCell_same _ _ _ c1, by simp [f0], by simp [f1], by simpa using sz⟩

set_option maxHeartbeats 400000 in
theorem uv11_fail (lb : Nat) (a : Option Addr) (len cap : Nat) (f : Nat → Int) (p : Nat) (w : World) (hlen : len ≤ 1048576)
    (hl : Rdr w lb (.slice a len cap) .nilIface)
    (hc : BRow lb w a len fun k => f (p + k)) (hz : ∀ k : Nat, k < p + len → 0 ≤ f k ∧ f k ≤ 255) (hr : rd f (p + len) 11 0 p 0 = none) :
    Calls Ybaf.prog 11 #[.pointer (some ⟨lb, 0, none⟩)] w fun e w' => e = .returned (.int .u64 0) ∧ Below lb w w' ∧ ∃ x, Rdr w' lb (.slice a len cap) (.iface 45 x) := by
  have H := uv_any lb a len cap f p w hlen hc hz
  rw [hr] at H
  have HH : Hid (Calls Ybaf.prog 13 #[.slice a len cap] w fun e w' => Out13 none e ∧ w' = w) := H
  have HL : Hid (Rdr w lb (.slice a len cap) .nilIface) := hl
  obtain ⟨h0, h1, f0, f1, hsz⟩ := hl
  clear H hr hc hz
  go_enter Ybaf.func11, Ybaf.ntmps11
  go_wp2_with (first | (go_at_call 13; refine (HH.out).mono ?_; rintro e w' ⟨⟨m, hm, rfl⟩, rfl⟩) | (go_at_call 6; refine (new_any _ _).mono ?_; rintro e w' ⟨rfl, rfl⟩))
  go_ret
  exact ⟨rfl, ((Below.refl lb w').setCell (p := ⟨lb, 1, none⟩) (Nat.le_refl lb) _).alloc (by simp; omega) _, _, (HL.out.set1 _).alloc _⟩

set_option maxHeartbeats 400000 in
theorem uv11_ok (lb : Nat) (a : Option Addr) (len cap : Nat) (f : Nat → Int) (p : Nat) (w : World) (hlen : len ≤ 1048576) (hcap : len ≤ cap)
    (hl : Rdr w lb (.slice a len cap) .nilIface)
    (hc : BRow lb w a len fun k => f (p + k)) (hz : ∀ k : Nat, k < p + len → 0 ≤ f k ∧ f k ≤ 255) (v : Int) (k : Nat) (hr : rd f (p + len) 11 0 p 0 = some (v, k)) :
    Calls Ybaf.prog 11 #[.pointer (some ⟨lb, 0, none⟩)] w fun e w' => e = .returned (.int .u64 v) ∧ Below lb w w' ∧ ∃ a', Rdr w' lb (.slice a' (len - k) (cap - k)) .nilIface ∧ BRow lb w' a' (len - k) fun j => f (p + k + j) := by
  have H := uv_any lb a len cap f p w hlen hc hz
  have hk := rd_le _ _ _ _ _ _ _ hr
  have hk1 : 0 < k := hk.1
  have hk2 : k ≤ len := by have : p + k ≤ p + len := hk.2; omega
  rw [hr] at H
  have HH : Hid (Calls Ybaf.prog 13 #[.slice a len cap] w fun e w' => Out13 (some (v, k)) e ∧ w' = w) := H
  have HL : Hid (Rdr w lb (.slice a len cap) .nilIface) := hl
  have HC : Hid (BRow lb w a len fun k => f (p + k)) := hc
  rcases hc with hc | ⟨b, off, rfl, hB, hc⟩
  · omega
  obtain ⟨h0, h1, f0, f1, hsz⟩ := hl
  have HCC : Hid (∀ k, k < len → w.cell? ⟨b, off + k, none⟩ = some (.int .u8 (f (p + k)))) := hc
  clear H hr hz hk hc
  go_enter Ybaf.func11, Ybaf.ntmps11
  go_wp2_with (go_at_call 13; refine (HH.out).mono ?_; rintro e w' ⟨he, rfl⟩; have he' : e = .returned (.tuple #[.int .u64 v, .int .i64 (k : Nat)]) := he; subst he')
  · go_ret
    have hk3 : len = k := by omega
    refine ⟨rfl, (Below.refl lb w').setCell (p := ⟨lb, 0, none⟩) (Nat.le_refl lb) _, some ⟨b, off, none⟩, ?_, .inl (by omega)⟩
    exact HL.out.set0 _
  · go_ret
    refine ⟨rfl, (Below.refl lb w').setCell (p := ⟨lb, 0, none⟩) (Nat.le_refl lb) _, _, HL.out.set0 _, .inr ⟨b, off + k, rfl, hB, fun j hj => ?_⟩⟩
    have hb := (Below.refl lb w').setCell (p := ⟨lb, 0, none⟩) (Nat.le_refl lb) (.slice (some ⟨b, off + k, none⟩) (len - k) (cap - k))
    rw [hb.cell (p := ⟨b, off + k + j, none⟩) hB, Nat.add_assoc, HCC.out (k + j) (by omega)]
    simp [Nat.add_assoc]
end Go.Proofs.YbulkebkmFmt
