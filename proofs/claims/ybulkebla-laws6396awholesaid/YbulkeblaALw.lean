import Derived.Test.YbulkeblaAK9
import Derived.Test.YbulkeblaAK10
/-! The law (3). -/
namespace Go.Proofs.Ybulkebla
open Go.RowKit Go.Lib
set_option linter.unusedVariables false
set_option linter.unusedSectionVars false
variable [Inhabited Rn] [Inhabited Hs] [Inhabited Sc]
set_option linter.unusedSimpArgs false

theorem rns_total (pe : Nat → Nat) (P : Nat) (rn : Nat → Rn) (n : Nat) : ((List.range P).flatMap (rns pe P rn n)).length ≤ n := by
  induction n with
  | zero =>
    have : (List.range P).flatMap (rns pe P rn 0) = [] := by
      rw [List.flatMap_eq_nil_iff]
      intro q _
      rfl
    rw [this]; simp
  | succ n ih =>
    have key : ∀ K, ((List.range K).flatMap (rns pe P rn (n + 1))).length = ((List.range K).flatMap (rns pe P rn n)).length + (if pe n % P < K then 1 else 0) := by
      intro K
      induction K with
      | zero => simp
      | succ K ihK =>
        rw [range_flat, range_flat, List.length_append, List.length_append, ihK, rns_succ]
        by_cases e : K = pe n % P
        · subst e; simp; omega
        · rw [if_neg e]
          by_cases h : pe n % P < K
          · rw [if_pos h, if_pos (by omega)]; omega
          · rw [if_neg h, if_neg (by omega)]; omega
    rw [key P]
    split <;> omega

theorem any_flat {f : Nat → Bool} {g : Nat → List Rn} (h : ∀ q, f q = !(g q).isEmpty) : ∀ l : List Nat, l.any f = !(l.flatMap g).isEmpty
  | [] => rfl
  | x :: l => by
    rw [List.any_cons, List.flatMap_cons, h x, any_flat h l]
    cases g x <;> simp
theorem flat_le {α β : Type} {f : Nat → List α} {g : Nat → List β} {p : Nat} (h : ∀ q, q < p → (f q).length ≤ (g q).length) : ((List.range p).flatMap f).length ≤ ((List.range p).flatMap g).length := by
  induction p with
  | zero => simp
  | succ p ih =>
    rw [range_flat, range_flat, List.length_append, List.length_append]
    have h1 := ih (fun q hq => h q (by omega))
    have h2 := h p (by omega)
    omega
def stL (C hb wb P S hl qb nb ib eb : Nat) (A : List Value) (hv wv : Nat → Value) (runs rr : Nat → List Rn) (hs : Nat → Int) (byf : Value) (bs' : List Hs) (vs : Nat → Value) (secs : Nat → List Sc) (pr : Nat → Bool) (vi : Nat → Value) (acs6 : Nat → List Sp) : Lb → Option Rw := fun l =>
  if l.1 = 0 then if l.2 < P then some ⟨hv l.2, 29, 4, (rr l.2).length, fl Rn.enc (rr l.2)⟩ else none
  else if l.1 = 2 then if l.2 < P then some ⟨wv l.2, 29, 4, (runs l.2).length, fl Rn.enc (runs l.2)⟩ else none
  else if l.1 = 7 then if l.2 < P then some ⟨vs l.2, 56, 2, (secs l.2).length, fl Sc.enc (secs l.2)⟩ else none
  else if l.1 = 14 then if l.2 < S then some ⟨vi l.2, 33, 2, (acs6 l.2).length, spc (acs6 l.2)⟩ else none
  else if l = (1, 0) then some (bk hb 30 1 P P (vals P hv))
  else if l = (3, 0) then some (bk wb 30 1 P P (vals P wv))
  else if l = (4, 0) then some (bk C 43 10 1 1 A)
  else if l = (5, 0) then some (bk hl 2 1 P P (ints ((List.range P).map hs)))
  else if l = (6, 0) then some (bk qb 54 1 P P (vals P vs))
  else if l = (8, 0) then some (bk nb 9 1 S S (strs S pr))
  else if l = (12, 0) then some ⟨byf, 35, 3, bs'.length, fl Hs.enc bs'⟩
  else if l = (13, 0) then some (bk ib 51 1 S S (vals S vi))
  else if l = (15, 0) then some (bk eb 2 1 bs'.length bs'.length (rch bs' bs'.length))
  else none
theorem stL_weak (ρ ρ' : Lb → Option Rw) (C hb wb P S hl qb nb ib eb : Nat) (A : List Value) (f hv wv : Nat → Value) (runs rr : Nat → List Rn) (hs : Nat → Int) (byf : Value) (bs' : List Hs) (vs : Nat → Value) (secs : Nat → List Sc) (pr : Nat → Bool) (vi : Nat → Value) (acs6 : Nat → List Sp)
    (h : Ixd ρ ρ' C hb P S f hv rr hs byf bs' vs secs pr vi acs6 hl qb nb ib eb) (hc : ρ' (4, 0) = some (bk C 43 10 1 1 A)) (hw : ∀ q, q < P → ρ' (2, q) = some ⟨wv q, 29, 4, (runs q).length, fl Rn.enc (runs q)⟩) (hw3 : ρ' (3, 0) = some (bk wb 30 1 P P (vals P wv))) (l : Lb) :
    stL C hb wb P S hl qb nb ib eb A hv wv runs rr hs byf bs' vs secs pr vi acs6 l = ρ' l ∨ stL C hb wb P S hl qb nb ib eb A hv wv runs rr hs byf bs' vs secs pr vi acs6 l = none := by
  obtain ⟨x, y⟩ := l
  by_cases e0 : x = 0
  · subst e0
    by_cases ey : y < P
    · left; rw [h.hold y ey]; simp [stL, ey]
    · right; simp [stL, ey]
  by_cases e2 : x = 2
  · subst e2
    by_cases ey : y < P
    · left; rw [hw y ey]; simp [stL, ey]
    · right; simp [stL, ey]
  by_cases e7 : x = 7
  · subst e7
    by_cases ey : y < P
    · left; rw [h.sec y ey]; simp [stL, ey]
    · right; simp [stL, ey]
  by_cases e14 : x = 14
  · subst e14
    by_cases ey : y < S
    · left; rw [h.it y ey]; simp [stL, ey]
    · right; simp [stL, ey]
  by_cases e1 : x = 1 ∧ y = 0
  · obtain ⟨rfl, rfl⟩ := e1; left; rw [h.outer]; simp [stL]
  by_cases e3 : x = 3 ∧ y = 0
  · obtain ⟨rfl, rfl⟩ := e3; left; rw [hw3]; simp [stL]
  by_cases e4 : x = 4 ∧ y = 0
  · obtain ⟨rfl, rfl⟩ := e4; left; rw [hc]; simp [stL]
  by_cases e5 : x = 5 ∧ y = 0
  · obtain ⟨rfl, rfl⟩ := e5; left; rw [h.held]; simp [stL]
  by_cases e6 : x = 6 ∧ y = 0
  · obtain ⟨rfl, rfl⟩ := e6; left; rw [h.secO]; simp [stL]
  by_cases e8 : x = 8 ∧ y = 0
  · obtain ⟨rfl, rfl⟩ := e8; left; rw [h.names]; simp [stL]
  by_cases e12 : x = 12 ∧ y = 0
  · obtain ⟨rfl, rfl⟩ := e12; left; rw [h.byF]; simp [stL]
  by_cases e13 : x = 13 ∧ y = 0
  · obtain ⟨rfl, rfl⟩ := e13; left; rw [h.itO]; simp [stL]
  by_cases e15 : x = 15 ∧ y = 0
  · obtain ⟨rfl, rfl⟩ := e15; left; rw [h.reach]; simp [stL]
  right
  simp [stL, e0, e1, e2, e3, e4, e5, e6, e7, e8, e12, e13, e14, e15]

set_option maxHeartbeats 2000000 in
set_option maxRecDepth 100000 in
theorem lawLong (pe0 se0 n rc : Nat) (items : Int) (a : Option Addr) (w : World) (hn : 4096 < n) : Calls Yba.prog 3 #[.int .u8 (pe0 : Nat), .int .u8 (se0 : Nat), .int .i64 items, .slice a n rc] w fun e w' => e = .returned (.bool true) ∧ w' = w := by
  have hng : (4096 : Int) < (n : Int) := by omega
  go_enter Yba.func3, Yba.ntmps3
  go_wp2_with fail
  go_ret
  exact ⟨rfl, rfl⟩

set_option maxHeartbeats 8000000 in
set_option maxRecDepth 100000 in
theorem law (pe0 se0 n rc rb ro : Nat) (items : Int) (a : Option Addr) (w : World) (hn : n ≤ 4096) (pe se co : Nat → Nat) (fi : Nat → Int) (hpe0 : pe0 < 256) (hse0 : se0 < 256) (ha : 0 < n → a = some ⟨rb, ro, none⟩ ∧ rb < w.heap.size)
    (hpe : ∀ i, i < n → pe i < 256 ∧ se i < 256 ∧ co i < 256 ∧ -32768 ≤ fi i ∧ fi i ≤ 32767)
    (hraw : ∀ i, i < n → w.cell? ⟨rb, ro + i * 4, none⟩ = some (.int .u8 (pe i : Nat)) ∧ w.cell? ⟨rb, ro + i * 4 + 1, none⟩ = some (.int .u8 (se i : Nat)) ∧ w.cell? ⟨rb, ro + i * 4 + 2, none⟩ = some (.int .i16 (fi i)) ∧ w.cell? ⟨rb, ro + i * 4 + 3, none⟩ = some (.int .u8 (co i : Nat))) :
    Calls Yba.prog 3 #[.int .u8 (pe0 : Nat), .int .u8 (se0 : Nat), .int .i64 items, .slice a n rc] w fun e w' => e = .returned (.bool true) ∧ Below w.heap.size w w' := by

  have HRAW : Hid _ := hraw
  have HPE : Hid _ := hpe
  have HA : Hid (0 < n → a = some ⟨rb, ro, none⟩ ∧ rb < w.heap.size) := ha
  clear hraw hpe ha
  obtain ⟨P, HP⟩ : ∃ P, Hid (1 + pe0 % 6 = P) := ⟨_, rfl⟩
  obtain ⟨S, HS⟩ : ∃ S, Hid (1 + se0 % 6 = S) := ⟨_, rfl⟩
  have hP : P ≤ 6 := by rw [← HP.out]; omega
  have hP1 : 1 ≤ P := by rw [← HP.out]; omega
  have hS : S ≤ 6 := by rw [← HS.out]; omega
  have hS1 : 1 ≤ S := by rw [← HS.out]; omega
  have hng : ¬ (4096 : Int) < (n : Int) := by omega
  go_enter Yba.func3, Yba.ntmps3
  go_upto_region 5 with fail
  rw [show (1 : Int) + ((pe0 : Nat) : Int) % 6 = ((P : Nat) : Int) by rw [← HP.out]; omega, show (1 : Int) + ((se0 : Nat) : Int) % 6 = ((S : Nat) : Int) by rw [← HS.out]; omega]
  have m23 := fun w => make23 w P (by omega)
  clear hng
  go_upto_block 0 with fail
  obtain ⟨B, HB⟩ : ∃ B, Hid (w.heap.size = B) := ⟨_, rfl⟩
  rw [HB.out]
  have M0 : Mm w w B (fun _ => none) := ⟨mem_none w B, Below.refl _ _, by rw [HB.out]; exact Nat.le_refl _⟩
  have M1 : Hid (Mm w ((w.alloc (.cells (Array.replicate P (.slice none 0 0)) 30)).alloc (.cells (Array.replicate P (.slice none 0 0)) 30)) B (upd (upd (fun _ => none) (1, 0) (some (bk B 30 1 P P (List.replicate P (.slice none 0 0))))) (3, 0) (some (bk (B + 1) 30 1 P P (List.replicate P (.slice none 0 0)))))) := by
    have h1 := M0.box (1, 0) (Array.replicate P (.slice none 0 0)) 30 1 P (by unfold maxLen; omega) (by simp) HB.out
    have h2 := h1.box (3, 0) (Array.replicate P (.slice none 0 0)) 30 1 P (by unfold maxLen; omega) (by simp) (g := B + 1) (by rw [← HB.out]; simp)
    rw [Array.toList_replicate] at h2
    exact h2
  clear M0 m23
  generalize (w.alloc (.cells (Array.replicate P (.slice none 0 0)) 30)).alloc (.cells (Array.replicate P (.slice none 0 0)) 30) = wa at M1 ⊢
  obtain ⟨wb, HWB⟩ : ∃ wb, Hid (B + 1 = wb) := ⟨_, rfl⟩
  obtain ⟨hb, HHB⟩ : ∃ hb, Hid (B = hb) := ⟨_, rfl⟩
  rw [HWB.out] at M1 ⊢
  have M1' : Hid (Mm w wa B (stF (fun _ => none) hb wb P (fun _ => .slice none 0 0) (fun _ => .slice none 0 0) (fun _ => []))) := by
    refine M1.out.weak (fun l => ?_)
    obtain ⟨x, y⟩ := l
    by_cases e0 : x = 0
    · subst e0
      by_cases ey : y < P
      · right; right; exact ⟨29, 4, by simp [stF, ey, fl]⟩
      · right; left; simp [stF, ey]
    by_cases e2 : x = 2
    · subst e2
      by_cases ey : y < P
      · right; right; exact ⟨29, 4, by simp [stF, ey, fl]⟩
      · right; left; simp [stF, ey]
    by_cases e1 : x = 1 ∧ y = 0
    · obtain ⟨rfl, rfl⟩ := e1; left; simp [stF, upd, vals, List.map_const', HHB.out]
    by_cases e3 : x = 3 ∧ y = 0
    · obtain ⟨rfl, rfl⟩ := e3; left; simp [stF, upd, vals, List.map_const']
    · right; left; simp [stF, e0, e2, e1, e3]
  clear M1
  obtain ⟨rn, HRN⟩ : ∃ rn : Nat → Rn, Hid (∀ i, rn i = ⟨((se i % S : Nat) : Int), fi i, 1 + ((co i % 16 : Nat) : Int)⟩) := ⟨fun i => ⟨((se i % S : Nat) : Int), fi i, 1 + ((co i % 16 : Nat) : Int)⟩, fun _ => rfl⟩
  rw [HHB.out]
  refine fill w wa B (fun _ => none) a hb wb rb ro rc n P S pe se co fi rn M1'.out hn hP hP1 hS hS1 (fun h => ⟨(HA.out h).1, by rw [← HB.out]; exact (HA.out h).2⟩) HPE.out HRN.out HRAW.out _ ?_
  intro x14 x15 x16 x17 x69 x70 x71 x72 x73 x74 x75 x76 x77 x78 x79 x80 x81 x82 x83 x84 x85 x86 x87 x88 x89 x90 x91 x92 x93 x94 x95 x96 x97 x98 x99 x100 x101 x102 x103 x104 x105 x106 x107 x108 x109 x110 x111 x112 x113 x114 x115 hv wv wb1 hmb1
  obtain ⟨runs, HRU⟩ : ∃ runs, Hid (rns pe P rn n = runs) := ⟨_, rfl⟩
  rw [HRU.out] at hmb1
  have M2 : Hid (Mm w wb1 B (stF (fun _ => none) hb wb P hv wv runs)) := hmb1
  clear hmb1 M1'
  have HFI : Hid (∀ q, Fine S (runs q)) := by
    intro q r hr
    rw [← HRU.out] at hr
    obtain ⟨t, ht, rfl⟩ := List.mem_map.1 hr
    have ht2 := List.mem_range.1 (List.mem_filter.1 ht).1
    have hb := HPE.out t ht2
    rw [HRN.out t]
    exact ⟨⟨se t % S, Nat.mod_lt _ (by omega), rfl⟩, hb.2.2.2.1, hb.2.2.2.2, by show (1 : Int) ≤ 1 + _; omega, by show 1 + ((co t % 16 : Nat) : Int) ≤ 16; omega⟩
  have HTT : Hid (((List.range P).flatMap runs).length ≤ 4096) := by
    show _ ≤ _
    rw [← HRU.out]
    exact Nat.le_trans (rns_total pe P rn n) hn
  go_wp2_with fail
  obtain ⟨fb, HFB⟩ : ∃ fb, Hid (wb1.heap.size = fb) := ⟨_, rfl⟩
  obtain ⟨C, HC⟩ : ∃ C, Hid (fb + 1 = C) := ⟨_, rfl⟩
  rw [HFB.out, HC.out]
  obtain ⟨f, HF⟩ : ∃ f : Nat → Value, Hid ((fun j => if j = 0 then .slice (some ⟨hb, 0, none⟩) P P else if j = 2 then .int .i64 items else if j = 3 then .int .i64 S else if j = 5 then .slice (some ⟨fb, 0, none⟩) 1 1 else .slice none 0 0) = f) := ⟨_, rfl⟩
  have M3 : Hid (Mm w ((wb1.alloc (.cells #[.int .i64 1099511627776, .int .i64 1099511627776, .int .i32 99] 35)).alloc (.cells #[.slice (some ⟨hb, 0, none⟩) P P, .slice none 0 0, .int .i64 items, .int .i64 S, .slice none 0 0, .slice (some ⟨fb, 0, none⟩) 1 1, .slice none 0 0, .slice none 0 0, .slice none 0 0, .slice none 0 0] 43)) B (upd (stF (fun _ => none) hb wb P hv wv runs) (4, 0) (some (bk C 43 10 1 1 (catl f))))) := by
    have h := (M2.out.alloc (.cells #[.int .i64 1099511627776, .int .i64 1099511627776, .int .i32 99] 35)).box (4, 0) #[.slice (some ⟨hb, 0, none⟩) P P, .slice none 0 0, .int .i64 items, .int .i64 S, .slice none 0 0, .slice (some ⟨fb, 0, none⟩) 1 1, .slice none 0 0, .slice none 0 0, .slice none 0 0, .slice none 0 0] 43 10 1 (by decide) rfl (g := C) (by rw [← HC.out, ← HFB.out]; simp)
    rw [← HF.out]
    exact h
  generalize (wb1.alloc (.cells #[.int .i64 1099511627776, .int .i64 1099511627776, .int .i32 99] 35)).alloc (.cells #[.slice (some ⟨hb, 0, none⟩) P P, .slice none 0 0, .int .i64 items, .int .i64 S, .slice none 0 0, .slice (some ⟨fb, 0, none⟩) 1 1, .slice none 0 0, .slice none 0 0, .slice none 0 0, .slice none 0 0] 43) = w3 at M3 ⊢
  clear M2
  obtain ⟨ρ3, HR3⟩ : ∃ ρ3, Hid (upd (stF (fun _ => none) hb wb P hv wv runs) (4, 0) (some (bk C 43 10 1 1 (catl f))) = ρ3) := ⟨_, rfl⟩
  rw [HR3.out] at M3
  refine (index w w3 B ρ3 C hb P S f hv runs M3.out hP hS HFI.out HTT.out (by rw [← HR3.out, upd_same]) (by rw [← HF.out]; rfl) (by rw [← HF.out]; rfl) (by rw [← HR3.out]; simp [upd, stF]) (fun q hq => by rw [← HR3.out]; simp [upd, stF, hq])).mono ?_
  rintro e w4 ⟨rfl, hpost⟩
  have HPost : Hid (IxPost w w4 B ρ3 C hb P S f hv runs) := hpost
  clear hpost
  have ⟨ρ4, rr, hs, acs, byf, bs, bs', vs, secs, pr, rows, vi, acs6, hl, qb, nb, ib, eb, hM4, hinv, hpb, hab, hits, hix⟩ := HPost.out
  obtain ⟨A, HAA⟩ : ∃ A : List Value, Hid ([f 0, f 1, f 2, f 3, .slice (some ⟨hl, 0, none⟩) P P, byf, .slice (some ⟨eb, 0, none⟩) bs'.length bs'.length, .slice (some ⟨qb, 0, none⟩) P P, .slice (some ⟨ib, 0, none⟩) S S, .slice (some ⟨nb, 0, none⟩) S S] = A) := ⟨_, rfl⟩
  have M4 : Hid (Mm w w4 B ρ4) := hM4
  have HI : Hid (Inv1 P P runs rr hs acs bs vs secs pr rows) := hinv
  have HPB : Hid (bs'.Perm bs) := hpb
  have HAB : Hid (AscF bs') := hab
  have HITS : Hid (∀ k, k < S → Its rows vi acs6 k) := hits
  have HIX : Hid (Ixd ρ3 ρ4 C hb P S f hv rr hs byf bs' vs secs pr vi acs6 hl qb nb ib eb) := hix
  have K4 : Hid (ρ4 (4, 0) = some (bk C 43 10 1 1 A)) := by show _ = _; rw [← HAA.out]; exact hix.cat
  have HA0 : Hid (A[0]? = some (.slice (some ⟨hb, 0, none⟩) P P)) := by show _ = _; rw [← HAA.out, ← HF.out]; rfl
  have HA1 : Hid (A[1]? = some (.slice none 0 0)) := by show _ = _; rw [← HAA.out, ← HF.out]; rfl
  have HA2 : Hid (A[2]? = some (.int .i64 items)) := by show _ = _; rw [← HAA.out, ← HF.out]; rfl
  have HA3 : Hid (A[3]? = some (.int .i64 S)) := by show _ = _; rw [← HAA.out, ← HF.out]; rfl
  have HA4 : Hid (A[4]? = some (.slice (some ⟨hl, 0, none⟩) P P)) := by show _ = _; rw [← HAA.out]; rfl
  have HA5 : Hid (A[5]? = some byf) := by show _ = _; rw [← HAA.out]; rfl
  have HA6 : Hid (A[6]? = some (.slice (some ⟨eb, 0, none⟩) bs'.length bs'.length)) := by show _ = _; rw [← HAA.out]; rfl
  have HA7 : Hid (A[7]? = some (.slice (some ⟨qb, 0, none⟩) P P)) := by show _ = _; rw [← HAA.out]; rfl
  have HA8 : Hid (A[8]? = some (.slice (some ⟨ib, 0, none⟩) S S)) := by show _ = _; rw [← HAA.out]; rfl
  have HA9 : Hid (A[9]? = some (.slice (some ⟨nb, 0, none⟩) S S)) := by show _ = _; rw [← HAA.out]; rfl
  clear hM4 hinv hpb hab hits hix HPost
  obtain ⟨ρ5, HR5⟩ : ∃ ρ5, Hid (stL C hb wb P S hl qb nb ib eb A hv wv runs rr hs byf bs' vs secs pr vi acs6 = ρ5) := ⟨_, rfl⟩
  have M5 : Hid (Mm w w4 B ρ5) := by
    refine M4.out.weak (fun l => ?_)
    rw [← HR5.out]
    refine Or.elim (stL_weak _ _ C hb wb P S hl qb nb ib eb A f hv wv runs rr hs byf bs' vs secs pr vi acs6 HIX.out K4.out (fun q hq => ?_) ?_ l) .inl (fun h => .inr (.inl h))
    · rw [HIX.out.rest (2, q) (.inl rfl), ← HR3.out]; simp [upd, stF, hq]
    · rw [HIX.out.rest (3, 0) (.inr rfl), ← HR3.out]; simp [upd, stF]
  have K5 : Hid (ρ5 (4, 0) = some (bk C 43 10 1 1 A)) := by show _ = _; rw [← HR5.out]; simp [stL]
  clear M4 K4 HIX M3
  have y0 := M5.out.cell K5.out 0 HA0.out
  have y1 := M5.out.cell K5.out 1 HA1.out
  have y2 := M5.out.cell K5.out 2 HA2.out
  have y3 := M5.out.cell K5.out 3 HA3.out
  have lC := M5.out.lt K5.out
  have n37 : ∀ w : World, (binOp .neq 37 (.slice none 0 0) (.slice none 0 0)).run Yba.prog w = .ok (.bool false) w := fun w => by kernel_rfl
  go_upto_block 2 with fail
  refine cmpHold w w4 B ρ5 C hb wb P A hv wv runs rr M5.out hP HA0.out K5.out (by rw [← HR5.out]; simp [stL]) (by rw [← HR5.out]; simp [stL]) (fun q hq => by rw [← HR5.out]; simp [stL, hq]) (fun q hq => by rw [← HR5.out]; simp [stL, hq]) (fun q hq => ⟨HI.out.perm q, (HI.out.done q hq).asc, run_len HTT.out q hq⟩) (by rw [← HR5.out]; simp [stL]) (by rw [← HR5.out]; simp [stL]) _ ?_
  clear y0 y1 y2 y3 lC n37
  intro x8 x19 x20 x21 x22 x23 x156 x157 x158 x159 x160 x161 x162 x163 x164 x165 x166 x167 x168 x169 x170 x171 x172 x173 x174 x175 x176 x177 x178 x179 x180 x181 x182 x183 x184 x185 x186 x187 x188 x189 x190 x191 x192 x193 x194 x195 x196 x197 x198 x199 x200 x201 x202 x203 x204 x205 x206 x207 x208 w5 hm5
  have M6 : Hid (Mm w w5 B ρ5) := hm5
  clear hm5 M5
  have y4 := M6.out.cell K5.out 4 HA4.out
  have y7 := M6.out.cell K5.out 7 HA7.out
  have y8 := M6.out.cell K5.out 8 HA8.out
  have y9 := M6.out.cell K5.out 9 HA9.out
  have lC := M6.out.lt K5.out
  obtain ⟨Mk, HMk⟩ : ∃ Mk : Array Value, Hid ((List.replicate 65600 (.bool false)).toArray = Mk) := ⟨_, rfl⟩
  have m48 : ∀ w : World, (Instr.makeSlice 48 (.int .i64 65600) (.int .i64 65600)).run Yba.prog w = .ok (.slice (some ⟨w.heap.size, 0, none⟩) 65600 65600) (w.alloc (.cells Mk 4)) := fun w => by rw [← HMk.out]; exact make48 w 65600 (by omega)
  go_wp2_with fail
  obtain ⟨mk, HMK⟩ : ∃ mk, Hid (w5.heap.size = mk) := ⟨_, rfl⟩
  rw [HMK.out]
  have M7 : Hid (Mm w (w5.alloc (.cells Mk 4)) B (upd ρ5 (30, 0) (some (bk mk 4 1 65600 65600 marks)))) := by
    have h := M6.out.box (30, 0) Mk 4 1 65600 (by unfold maxLen; omega) (by rw [← HMk.out, List.size_toArray, List.length_replicate]) HMK.out
    rw [← HMk.out, List.toList_toArray] at h
    rw [← HMk.out]
    exact h
  generalize w5.alloc (.cells Mk 4) = w7 at M7 ⊢
  clear m48 y4 y7 y8 y9 lC M6
  refine (aorder w7).mono ?_
  rintro e w8 ⟨rfl, hb8⟩
  have M8 : Hid (Mm w w8 B (upd ρ5 (30, 0) (some (bk mk 4 1 65600 65600 marks)))) := M7.out.below hb8
  clear hb8 M7
  have z49 := size49
  have g49 := agg49
  have m23 := fun w => make23 w S (by omega)
  go_upto_block 6 with fail
  obtain ⟨ob, HOB⟩ : ∃ ob, Hid (w8.heap.size = ob) := ⟨_, rfl⟩
  obtain ⟨pb, HPBk⟩ : ∃ pb, Hid (ob + 1 = pb) := ⟨_, rfl⟩
  rw [HOB.out, HPBk.out]
  have M9 : Hid (Mm w ((w8.alloc (.cells #[.int .i64 3, .int .i64 5, .int .i64 1, .int .i64 4, .int .i64 0, .int .i64 2] 49)).alloc (.cells (Array.replicate S (.slice none 0 0)) 30)) B (upd (upd (upd ρ5 (30, 0) (some (bk mk 4 1 65600 65600 marks))) (31, 0) (some (bk ob 49 6 1 1 [.int .i64 3, .int .i64 5, .int .i64 1, .int .i64 4, .int .i64 0, .int .i64 2]))) (33, 0) (some (bk pb 30 1 S S (List.replicate S (.slice none 0 0)))))) := by
    have h1 := M8.out.box (31, 0) #[.int .i64 3, .int .i64 5, .int .i64 1, .int .i64 4, .int .i64 0, .int .i64 2] 49 6 1 (by decide) rfl HOB.out
    have h2 := h1.box (33, 0) (Array.replicate S (.slice none 0 0)) 30 1 S (by unfold maxLen; omega) (by simp) (g := pb) (by rw [← HPBk.out, ← HOB.out]; simp)
    rw [Array.toList_replicate] at h2
    exact h2
  generalize (w8.alloc (.cells #[.int .i64 3, .int .i64 5, .int .i64 1, .int .i64 4, .int .i64 0, .int .i64 2] 49)).alloc (.cells (Array.replicate S (.slice none 0 0)) 30) = w9 at M9 ⊢
  clear M8 z49 g49 m23
  obtain ⟨ρ6, HR6⟩ : ∃ ρ6, Hid (upd (upd ρ5 (30, 0) (some (bk mk 4 1 65600 65600 marks))) (31, 0) (some (bk ob 49 6 1 1 [.int .i64 3, .int .i64 5, .int .i64 1, .int .i64 4, .int .i64 0, .int .i64 2])) = ρ6) := ⟨_, rfl⟩
  have M9' : Hid (Mm w w9 B (stP ρ6 pb S (.slice none 0 0) [] (fun _ => .slice none 0 0) (fun _ => []))) := by
    refine M9.out.weak (fun l => ?_)
    rw [HR6.out]
    obtain ⟨x, y⟩ := l
    by_cases e34 : x = 34
    · subst e34
      by_cases ey : y < S
      · right; right; exact ⟨29, 4, by simp [stP, ey, fl]⟩
      · right; left; simp [stP, ey]
    by_cases e33 : x = 33 ∧ y = 0
    · obtain ⟨rfl, rfl⟩ := e33; left; simp [stP, upd, vals, List.map_const']
    by_cases e32 : x = 32 ∧ y = 0
    · obtain ⟨rfl, rfl⟩ := e32; right; right; exact ⟨35, 3, by simp [stP, fl]⟩
    by_cases e36 : x = 36
    · subst e36; right; left; simp [stP]
    by_cases e35 : x = 35 ∧ y = 0
    · obtain ⟨rfl, rfl⟩ := e35; right; left; simp [stP]
    by_cases e37 : x = 37 ∧ y = 0
    · obtain ⟨rfl, rfl⟩ := e37; right; left; simp [stP]
    by_cases e20 : x = 20 ∧ y = 0
    · obtain ⟨rfl, rfl⟩ := e20; right; left; simp [stP]
    by_cases e43 : x = 4 ∧ y = 3
    · obtain ⟨rfl, rfl⟩ := e43; right; left; simp [stP]
    by_cases e44 : x = 4 ∧ y = 4
    · obtain ⟨rfl, rfl⟩ := e44; right; left; simp [stP]
    left; simp [stP, upd, e34, e33, e32, e36, e35, e37, e20, e43, e44]
  have oth6 : ∀ l : Lb, l ≠ (30, 0) → l ≠ (31, 0) → ρ6 l = ρ5 l := fun l h1 h2 => by rw [← HR6.out, upd_other _ _ h2, upd_other _ _ h1]
  have HO6 : Hid (∀ l : Lb, l ≠ (30, 0) → l ≠ (31, 0) → ρ6 l = ρ5 l) := oth6
  have HBL : Hid (∀ p, p ≤ P → ((List.range p).flatMap fun q => hsp q (acs q)).length ≤ 4096) := fun p hp => by
    have h1 : ((List.range p).flatMap fun q => hsp q (acs q)).length ≤ ((List.range p).flatMap runs).length := flat_le (fun q hq => by
      have := merge_len (HI.out.done q (by omega)).mi
      rw [(HI.out.perm q).length_eq] at this
      simpa [hsp] using this)
    have h2 := flat_len runs runs (fun q => Nat.le_refl _) p P hp
    have h3 := HTT.out
    omega
  refine perPeer w w9 B ρ6 C wb mk ob pb hl qb P S A wv vs runs rr hs acs secs (fun _ => .slice none 0 0) M9'.out hP hS hS1 HA4.out HA7.out HFI.out HTT.out HBL.out (fun q hq => ⟨HI.out.perm q, HI.out.done q hq⟩)
    (by rw [oth6 _ (by simp) (by simp)]; exact K5.out) (by rw [oth6 _ (by simp) (by simp), ← HR5.out]; simp [stL]) (fun q hq => by rw [oth6 _ (by simp) (by simp), ← HR5.out]; simp [stL, hq]) (by rw [oth6 _ (by simp) (by simp), ← HR5.out]; simp [stL]) (by rw [oth6 _ (by simp) (by simp), ← HR5.out]; simp [stL])
    (fun q hq => by rw [oth6 _ (by simp) (by simp), ← HR5.out]; simp [stL, hq]) (by rw [← HR6.out]; simp [upd]) (by rw [← HR6.out]; simp [upd]) _ ?_
  clear oth6 M9 M9'
  intro x8 x28 x29 x30 x32 x33 x35 x36 x38 x39 x40 x41 x247 x248 x249 x250 x251 x252 x253 x254 x255 x256 x257 x258 x259 x260 x261 x262 x263 x264 x265 x266 x267 x268 x269 x270 x271 x272 x273 x274 x275 x276 x277 x278 x279 x280 x281 x282 x283 x284 x285 x286 x287 x288 x289 x290 x291 x292 x293 x294 x295 x296 x297 x298 x299 x300 x301 x302 x303 x304 x305 x306 x307 x308 x309 x310 x311 x312 x313 x314 x315 x316 x317 x318 x319 x320 x321 x322 x323 x324 x325 x326 x327 x328 x329 x330 x331 x332 x333 x334 x335 x336 x337 x338 x339 x340 x341 x342 x343 x344 x345 x346 x347 x348 x349 x350 x351 x352 x353 x354 x355 x356 x357 x358 x359 x360 x361 x362 x363 x364 x365 x366 x367 x368 vS vp w10 hm10
  obtain ⟨prow, HPRo⟩ : ∃ prow, Hid ((fun k => (List.range P).flatMap fun q => sel k (runs q)) = prow) := ⟨_, rfl⟩
  rw [HPRo.out, ← HI.out.bs] at hm10
  obtain ⟨ρ7, HR7⟩ : ∃ ρ7, Hid (stP ρ6 pb S vS bs vp prow = ρ7) := ⟨_, rfl⟩
  have M10 : Hid (Mm w w10 B ρ7) := by show Mm _ _ _ _; rw [← HR7.out]; exact hm10
  clear hm10
  have HO7 : Hid (∀ l : Lb, l.1 ≠ 34 → l.1 ≠ 36 → l ≠ (33, 0) → l ≠ (32, 0) → l ≠ (35, 0) → l ≠ (37, 0) → l ≠ (20, 0) → l ≠ (4, 3) → l ≠ (4, 4) → l ≠ (30, 0) → l ≠ (31, 0) → ρ7 l = ρ5 l) := fun l h1 h2 h3 h4 h5 h6 h7 h8 h9 h10 h11 => by
    rw [← HR7.out, stP_other h1 h2 h3 h4 h5 h6 h7 h8 h9]; exact HO6.out l h10 h11
  have K7 : Hid (ρ7 (4, 0) = some (bk C 43 10 1 1 A)) := (HO7.out _ (by simp) (by simp) (by simp) (by simp) (by simp) (by simp) (by simp) (by simp) (by simp) (by simp) (by simp)).trans K5.out
  have hpw : ∀ k, (prow k).length ≤ 4096 ∧ Fine S (prow k) := fun k => by
    rw [← HPRo.out]
    refine ⟨Nat.le_trans (flat_len (fun q => sel k (runs q)) runs (fun q => sel_len _ _) P P (Nat.le_refl _)) HTT.out, fun r hr => ?_⟩
    obtain ⟨q, _, hr2⟩ := List.mem_flatMap.1 hr
    exact HFI.out q r (List.mem_filter.1 hr2).1
  have hrp : ∀ k, (rows k).Perm (prow k) := fun k => by
    rw [HI.out.rows k, ← HPRo.out]
    exact flat_perm _ _ (fun q => sel_perm (HI.out.perm q) k) _
  have hprk : ∀ k, k < S → pr k = !(prow k).isEmpty := fun k _ => by
    rw [HI.out.pr k, ← HPRo.out]
    exact any_flat (fun q => by rw [hasId_perm (HI.out.perm q), hasId_sel]) _
  go_upto_block 14 with fail
  refine perSection w w10 B ρ7 C mk pb nb ib S A vp vi prow pr acs6 M10.out hS HA8.out HA9.out hprk hpw (fun k hk => ?_) K7.out
    (by rw [HO7.out _ (by simp) (by simp) (by simp) (by simp) (by simp) (by simp) (by simp) (by simp) (by simp) (by simp) (by simp), ← HR5.out]; simp [stL]) (by rw [HO7.out _ (by simp) (by simp) (by simp) (by simp) (by simp) (by simp) (by simp) (by simp) (by simp) (by simp) (by simp), ← HR5.out]; simp [stL])
    (fun k hk => by rw [HO7.out _ (by simp) (by simp) (by simp) (by simp) (by simp) (by simp) (by simp) (by simp) (by simp) (by simp) (by simp), ← HR5.out]; simp [stL, hk]) (by rw [← HR7.out, stP_other (by simp) (by simp) (by simp) (by simp) (by simp) (by simp) (by simp) (by simp) (by simp), ← HR6.out]; simp [upd])
    (by rw [← HR7.out]; simp [stP]) (fun k hk => by rw [← HR7.out]; simp [stP, hk]) (by rw [← HR7.out]; simp [stP]) _ ?_
  · obtain ⟨⟨d, hd1, hd2⟩, hsm, hnl⟩ := HITS.out k hk
    exact ⟨fun acc hsa => hsa d (acs6 k) (hd1.trans (hrp k)) hd2, hnl, hsm⟩
  clear hpw hrp hprk
  intro x8 x42 x43 x44 x45 x46 x369 x370 x371 x372 x373 x374 x375 x376 x377 x378 x379 x380 x381 x382 x383 x384 x385 x386 x387 x388 x389 x390 x391 x392 x393 x394 x395 x396 x397 x398 x399 x400 x401 x402 x403 x404 x405 x406 x407 x408 x409 x410 x411 x412 x413 x414 x415 x416 x417 w11 hm11
  have M11 : Hid (Mm w w11 B ρ7) := hm11
  clear hm11 M10
  have b12 : ρ7 (12, 0) = some ⟨byf, 35, 3, bs'.length, fl Hs.enc bs'⟩ := by rw [HO7.out _ (by simp) (by simp) (by simp) (by simp) (by simp) (by simp) (by simp) (by simp) (by simp) (by simp) (by simp), ← HR5.out]; simp [stL]
  have b32 : ρ7 (32, 0) = some ⟨vS, 35, 3, bs.length, fl Hs.enc bs⟩ := by rw [← HR7.out]; simp [stP]
  obtain ⟨a5, c5, hf5⟩ := own_form (M11.out.mem.own _ _ b12)
  obtain ⟨aS, cS, hfS⟩ := own_form (M11.out.mem.own _ _ b32)
  simp only at hf5 hfS
  have hbl : bs.length = bs'.length := HPB.out.length_eq.symm
  rw [hbl] at hfS b32
  subst hf5 hfS
  have hb4 : bs'.length ≤ 4096 := by rw [← hbl, HI.out.bs]; exact HBL.out P (Nat.le_refl _)
  obtain ⟨m, HM'⟩ : ∃ m, Hid (bs'.length = m) := ⟨_, rfl⟩
  have B12 : Hid _ := b12
  have B32 : Hid _ := b32
  have HBB : Hid (bs.length = bs'.length) := hbl
  have y5 := M11.out.cell K7.out 5 HA5.out
  have y6 := M11.out.cell K7.out 6 HA6.out
  have lC := M11.out.lt K7.out
  clear b12 b32 hbl
  go_wp2_with fail
  go_quiet (fail)
  have M12 : Hid (Mm w (w11.drewN nq) B ρ7) := M11.out.drewN nq
  generalize w11.drewN nq = w12 at M12 ⊢
  clear y5 y6 lC M11
  go_upto_block 16 with fail
  refine ascSpans w w12 B ρ7 C A a5 c5 bs' M12.out hb4 HA5.out K7.out B12.out HAB.out _ ?_
  intro x8 x47 x439 x440 x441 x442 x443 x444 x445 x446 x447 x448 x449 x450 x451 x452 x453 x454 x455 x456 x457 x458 x459 x460 x461 x462 x463 x464 x465 x466 x467 w13 hm13
  have M13 : Hid (Mm w w13 B ρ7) := hm13
  clear hm13 M12
  have y5 := M13.out.cell K7.out 5 HA5.out
  have lC := M13.out.lt K7.out
  go_wp2_with fail
  refine (cloneSpanOwn B (.slice a5 bs'.length c5) bs' w13 (by omega) (M13.out.mem.own _ _ B12.out)).mono ?_
  rintro e w14 ⟨v3, rfl, ho, hbw⟩
  obtain ⟨a6, c6, rfl⟩ := own_form ho
  have M14 : Hid (Mm w w14 B (upd ρ7 (40, 0) (some ⟨.slice a6 bs'.length c6, 35, 3, bs'.length, fl Hs.enc bs'⟩))) := M13.out.made (40, 0) hbw ⟨.slice a6 bs'.length c6, 35, 3, bs'.length, fl Hs.enc bs'⟩ ho
  clear ho hbw M13 y5 lC
  go_wp2_with fail
  refine (sortFunc17Own B (.slice a6 bs'.length c6) bs' w14 hb4 (M14.out.mem.own (40, 0) _ (upd_same _ _ _))).mono ?_
  rintro e w15 ⟨rfl, d1, hp1, hs1, ho, hg⟩
  have M15 : Hid (Mm w w15 B (upd ρ7 (40, 0) (some ⟨.slice a6 bs'.length c6, 35, 3, bs'.length, fl Hs.enc d1⟩))) := by
    have h := M14.out.put (upd_same _ _ _) hg ho (fun g hg => .inl hg)
    rw [upd_upd] at h
    exact h
  have HP1 : Hid (d1.Perm bs') := hp1
  have HS1 : Hid _ := hs1
  clear ho hg hp1 hs1 M14
  go_wp2_with fail
  have q32 : upd ρ7 (40, 0) (some ⟨.slice a6 bs'.length c6, 35, 3, bs'.length, fl Hs.enc d1⟩) (32, 0) = some ⟨.slice aS bs'.length cS, 35, 3, bs'.length, fl Hs.enc bs⟩ := (upd_other _ _ (by simp)).trans B32.out
  have CS2 : Hid (Calls Yba.prog 17 #[.slice aS bs'.length cS, .func (.func 18) #[] #[]] w15 fun e w' => e = .returned (.tuple #[]) ∧ ∃ d', d'.Perm bs ∧ Sort.SortedIn (ltOf cmpSpan) 0 bs.length d'.toArray ∧ w'.ownsRow B 35 3 (.slice aS bs'.length cS) bs.length (fl Hs.enc d') ∧ w15.grownBy w' (Value.slice aS bs'.length cS).ownBlock) :=
    sortFunc17Own B (.slice aS bs'.length cS) bs w15 (by rw [HBB.out]; exact hb4) (by rw [HBB.out]; exact M15.out.mem.own _ _ q32)
  refine Calls.mono CS2.out ?_
  rintro e w16 ⟨rfl, d2, hp2, hs2, ho, hg⟩
  rw [HBB.out] at hs2 ho
  have he : d1 = d2 := spans_one (d := bs') HP1.out (hp2.trans HPB.out.symm) HS1.out hs2
  subst he
  have M16 : Hid (Mm w w16 B (upd (upd ρ7 (40, 0) (some ⟨.slice a6 bs'.length c6, 35, 3, bs'.length, fl Hs.enc d1⟩)) (32, 0) (some ⟨.slice aS bs'.length cS, 35, 3, bs'.length, fl Hs.enc d1⟩))) := M15.out.put q32 hg ho (fun g hg => .inl hg)
  clear ho hg hp2 hs2 q32 CS2 M15
  go_wp2_with fail
  have hl1 : d1.length = bs'.length := HP1.out.length_eq
  have CE : Hid (Calls Yba.prog 19 #[.slice a6 bs'.length c6, .slice aS bs'.length cS] w16 fun e w' => e = .returned (.bool true) ∧ ∃ q, w' = w16.drewN q) :=
    equal19Own B B _ _ d1 w16 (by rw [hl1]; omega) (by rw [hl1]; exact M16.out.mem.own (40, 0) _ (by rw [upd_other _ _ (by simp), upd_same])) (by rw [hl1]; exact M16.out.mem.own (32, 0) _ (upd_same _ _ _))
  refine Calls.mono CE.out ?_
  rintro e w17 ⟨rfl, nq, rfl⟩
  clear CE hl1
  obtain ⟨ρ8, HR8⟩ : ∃ ρ8, Hid (upd (upd ρ7 (40, 0) (some ⟨.slice a6 bs'.length c6, 35, 3, bs'.length, fl Hs.enc d1⟩)) (32, 0) (some ⟨.slice aS bs'.length cS, 35, 3, bs'.length, fl Hs.enc d1⟩) = ρ8) := ⟨_, rfl⟩
  rw [HR8.out] at M16
  have M17 : Hid (Mm w (w16.drewN nq) B ρ8) := M16.out.drewN nq
  generalize w16.drewN nq = w18 at M17 ⊢
  have K8 : Hid (ρ8 (4, 0) = some (bk C 43 10 1 1 A)) := by show _ = _; rw [← HR8.out, upd_other _ _ (by simp), upd_other _ _ (by simp)]; exact K7.out
  have b12 : ρ8 (12, 0) = some ⟨.slice a5 bs'.length c5, 35, 3, bs'.length, fl Hs.enc bs'⟩ := by rw [← HR8.out, upd_other _ _ (by simp), upd_other _ _ (by simp)]; exact B12.out
  have b15 : ρ8 (15, 0) = some (bk eb 2 1 bs'.length bs'.length (rch bs' bs'.length)) := by rw [← HR8.out, upd_other _ _ (by simp), upd_other _ _ (by simp), HO7.out _ (by simp) (by simp) (by simp) (by simp) (by simp) (by simp) (by simp) (by simp) (by simp) (by simp) (by simp), ← HR5.out]; simp [stL]
  have y5 := M17.out.cell K8.out 5 HA5.out
  have lC := M17.out.lt K8.out
  clear M16
  go_upto_block 18 with fail
  refine reaches w w18 B ρ8 C eb A a5 c5 bs' M17.out hb4 HA6.out K8.out b12 b15 _ ?_
  clear b12 b15 y5 lC
  intro x8 x49 x50 x51 x486 x487 x488 x489 x490 x491 x492 x493 x494 x495 x496 x497 x498 x499 x500 x501 x502 x503 x504 x505 x506 x507 x508 x509 x510 x511 x512 w19 hm19
  have HBE : Hid (Below B w w19) := hm19.bel
  clear hm19
  go_wp2_with fail
  go_ret
  exact ⟨rfl, by rw [HB.out]; exact HBE.out⟩

end Go.Proofs.Ybulkebla

