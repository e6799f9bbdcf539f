import Derived.Test.YbulkeblaASort
/-! sortRuns (30). -/
namespace Go.Proofs.Ybulkebla
open Go.Shelf Go.RowKit Go.Lib
set_option linter.unusedVariables false
set_option linter.unusedSectionVars false
variable [Inhabited Rn] [Inhabited Hs]


theorem swK29 (n : Nat) (h2 : 2 ≤ n) : Lib.swapperK n Yba.t29 25 = 9 := by
  have a : Yba.t29.hasPointers = true := by kernel_rfl
  have b : (Yba.t29.bytes == 8) = false := by kernel_rfl
  have c : (n == 0) = false := by simp; omega
  have d : (n == 1) = false := by simp; omega
  simp [Lib.swapperK, a, b, c, d]

/-- 'less' of sortRuns. -/
def ltFirst (x y : Rn) : Bool := decide (x.first < y.first)
theorem swo_first : Sort.SWO ltFirst where
  irrefl x := by simp [ltFirst]
  trans x y z h1 h2 := by simp only [ltFirst, decide_eq_true_eq] at *; omega
  ntrans x y z h1 h2 := by simp only [ltFirst, decide_eq_false_iff_not] at *; omega

set_option maxHeartbeats 2000000 in
set_option maxRecDepth 100000 in
theorem less44 (blk off c Bs size : Nat) (W : World) (G : Nat → Int) (hs : W.cell? ⟨Bs, 0, none⟩ = some (.slice (some ⟨blk, off, none⟩) size c))
    (hc : ∀ t, t < size → W.cell? ⟨blk, off + t * 4 + 2, none⟩ = some (.int .i64 (G t))) (i j : Nat) (hi : i < size) (hj : j < size) (hsz : size < 4611686018427387904) :
    Calls Yba.prog 44 #[.int .i64 i, .int .i64 j, .pointer (some ⟨Bs, 0, none⟩)] W fun e w' => e = .returned (.bool (decide (G i < G j))) ∧ ∃ q, w' = W.drewN q := by
  have ci := hc i hi
  have cj := hc j hj
  clear hc
  go_enter Yba.func44, Yba.ntmps44
  go_wp2_with fail
  go_quiet (fail)
  go_wp2_with fail
  go_ret
  exact ⟨rfl, nq, rfl⟩

/-- What a sort leaves: the row's block alone has turned; new blocks. -/
theorem sorted_grown {α : Type} [Inhabited α] (enc : α → List Value) (k : Nat) (w : World) (blk off n : Nat) (d' : Array α) (os : Array Obj) : w.grownBy (Sort.grow (Sort.putRowK enc k (Sort.ahead w n) blk off d') os) (some blk) := by
  refine ⟨rfl, rfl, rfl, ?_, fun i hi hne => ?_⟩
  · show w.heap.size ≤ ((Sort.putRowK enc k (Sort.ahead w n) blk off d').heap ++ os).size
    have : (Sort.putRowK enc k (Sort.ahead w n) blk off d').heap.size = w.heap.size := by simp [Sort.putRowK]
    simp [this]
  · show ((Sort.putRowK enc k (Sort.ahead w n) blk off d').heap ++ os)[i]? = w.heap[i]?
    have hs : (Sort.putRowK enc k (Sort.ahead w n) blk off d').heap.size = w.heap.size := by simp [Sort.putRowK]
    rw [Array.getElem?_append_left (by omega)]
    show (w.heap.modify blk _)[i]? = w.heap[i]?
    rw [Array.getElem?_modify, if_neg (fun e => hne (by rw [e]))]

theorem slice32Run (blk off c Bs : Nat) (d : Array Rn) (h2 : 2 ≤ d.size) (hsz : d.size < 4611686018427387904) (w : World) (hH : Sort.HoldsK Rn.enc 4 w blk off d) (hblk : blk < w.heap.size)
    (hBs : w.cell? ⟨Bs, 0, none⟩ = some (.slice (some ⟨blk, off, none⟩) d.size c)) (hB1 : Bs < w.heap.size) (hB2 : Bs ≠ blk) :
    Calls Yba.prog 32 #[.iface 30 (.slice (some ⟨blk, off, none⟩) d.size c), .func (.func 44) #[] #[.pointer (some ⟨Bs, 0, none⟩)]] w fun e w' =>
      e = .returned (.tuple #[]) ∧ ∃ d' n os, Sort.PermIn 0 d.size d d' ∧ Sort.SortedIn ltFirst 0 d.size d' ∧ w' = Sort.grow (Sort.putRowK Rn.enc 4 (Sort.ahead w n) blk off d') os := by
  have hless : LessReadsK Yba.prog 44 #[.pointer (some ⟨Bs, 0, none⟩)] Rn.enc 4 ltFirst blk off d.size w := by
    intro m os dk hs i j hi hj
    have e : sortWorldK Rn.enc 4 w blk off m dk os = Sort.putRowK Rn.enc 4 (Sort.grow (Sort.ahead w m) os) blk off dk := by
      unfold sortWorldK; rw [Sort.putRowK_grow _ _ (Sort.ahead w m) _ blk off _ hblk]
    have hHg : Sort.HoldsK Rn.enc 4 (Sort.grow (Sort.ahead w m) os) blk off d := Sort.holdsK_grow _ _ _ _ blk off d hblk (Sort.holdsK_ahead _ _ _ _ _ _ _ hH)
    refine less44 blk off c Bs d.size _ (fun t => dk[t]!.first) ?_ (fun t ht => ?_) i j hi hj (by omega)
    · rw [e, Sort.cell?_putRowK_other _ _ _ blk off dk _ (by exact hB2), Sort.cell?_grow _ _ _ (by exact hB1)]; exact hBs
    · rw [e]; exact ((Sort.holdsK_putRowK _ _ _ blk off d dk hHg hs).cell (i := t) (c := 2) (by omega) (by omega)).1
  exact Any.sort_Slice_cells_sorted Yba.slice32 30 29 Yba.t30 Yba.t29 (by kernel_rfl) (by kernel_rfl) (by kernel_rfl) (by kernel_rfl) 25 (fun _ => by kernel_rfl) Rn.enc 4 (fun _ => rfl) (by kernel_rfl) (fun _ => by kernel_rfl)
    (fun x v hv => by simp [Rn.enc] at hv; rcases hv with rfl | rfl | rfl | rfl <;> rfl) ltFirst swo_first 44 _
    (enters_of Yba.func44 (by kernel_rfl) rfl) blk off c d h2 hsz 98 (by rw [swK29 _ h2]; kernel_rfl) false
    (fun args W => run_callFunc_extern Yba.func98 (by kernel_rfl) (by kernel_rfl) (by kernel_rfl) (e := Extern.ReflectliteSwapper.swap false) (by kernel_rfl) args W) w hless hH hblk

theorem swK29_0 : Lib.swapperK 0 Yba.t29 25 = 1 := rfl
theorem swK29_1 : Lib.swapperK 1 Yba.t29 25 = 2 := rfl

theorem tinyRun0 (a : Option Addr) (c : Nat) (fn : Fn) (la lb : Array Value) (w : World) :
    Calls Yba.prog 32 #[.iface 30 (.slice a 0 c), .func fn la lb] w fun e w' => e = .returned (.tuple #[]) ∧ ∃ os, w' = Sort.grow w os :=
  Any.sort_Slice_tiny Yba.slice32 30 29 Yba.t30 Yba.t29 (by kernel_rfl) (by kernel_rfl) (by kernel_rfl) (by kernel_rfl) 25 (fun _ => by kernel_rfl) a 0 c (by omega) 90 (by rw [swK29_0]; kernel_rfl) fn la lb w
theorem tinyRun1 (a : Option Addr) (c : Nat) (fn : Fn) (la lb : Array Value) (w : World) :
    Calls Yba.prog 32 #[.iface 30 (.slice a 1 c), .func fn la lb] w fun e w' => e = .returned (.tuple #[]) ∧ ∃ os, w' = Sort.grow w os :=
  Any.sort_Slice_tiny Yba.slice32 30 29 Yba.t30 Yba.t29 (by kernel_rfl) (by kernel_rfl) (by kernel_rfl) (by kernel_rfl) 25 (fun _ => by kernel_rfl) a 1 c (by omega) 91 (by rw [swK29_1]; kernel_rfl) fn la lb w

theorem grow_grown (w : World) (os : Array Obj) (r : Option Nat) : w.grownBy (Sort.grow w os) r :=
  ⟨rfl, rfl, rfl, by simp, fun i hi _ => Sort.heap_grow_old w os hi⟩
theorem alloc_grown (w : World) (o : Obj) (r : Option Nat) : w.grownBy (w.alloc o) r :=
  ⟨rfl, rfl, rfl, by simp, fun i hi _ => Below.heap_alloc _ _ _ hi⟩
theorem grown_trans {w w1 w2 : World} {r : Option Nat} (h : w.grownBy w1 r) (k : w1.grownBy w2 r) : w.grownBy w2 r :=
  ⟨k.os.trans h.os, k.tape.trans h.tape, k.output.trans h.output, Nat.le_trans h.size k.size, fun i hi hne => (k.block i (Nat.lt_of_lt_of_le hi h.size) hne).trans (h.block i hi hne)⟩

set_option maxHeartbeats 1000000 in
theorem sortRuns0 (a : Option Addr) (c : Nat) (r : Option Nat) (w : World) : Calls Yba.prog 30 #[.slice a 0 c] w fun e w' => e = .returned (.tuple #[]) ∧ w.grownBy w' r := by
  go_enter Yba.func30, Yba.ntmps30
  go_wp2_with fail
  refine (tinyRun0 a c _ _ _ _).mono ?_
  rintro e w1 ⟨rfl, os, hw⟩
  have G : Hid (w.grownBy w1 r) := by rw [hw]; exact grown_trans (alloc_grown _ _ _) (grow_grown _ _ _)
  clear hw
  go_wp2_with fail
  go_end0
  exact ⟨rfl, G.out⟩

set_option maxHeartbeats 1000000 in
set_option maxRecDepth 100000 in
theorem sortRuns (blk off c : Nat) (d : Array Rn) (w : World) (hd : 0 < d.size) (hsz : d.size ≤ 1048576) (hH : Sort.HoldsK Rn.enc 4 w blk off d) (hblk : blk < w.heap.size) :
    Calls Yba.prog 30 #[.slice (some ⟨blk, off, none⟩) d.size c] w fun e w' => e = .returned (.tuple #[]) ∧ ∃ d', Sort.PermIn 0 d.size d d' ∧ Sort.SortedIn ltFirst 0 d.size d' ∧ Sort.HoldsK Rn.enc 4 w' blk off d' ∧ w.grownBy w' (some blk) := by
  obtain ⟨n, hn⟩ : ∃ n, n = d.size := ⟨_, rfl⟩
  have HH : Hid (Sort.HoldsK Rn.enc 4 (w.alloc (.cells #[.slice (some ⟨blk, off, none⟩) n c] 30)) blk off d) := by
    show Sort.HoldsK _ _ _ _ _ _
    rw [Sort.alloc_eq_grow]; exact Sort.holdsK_grow _ _ _ _ blk off d hblk hH
  by_cases h1 : d.size = 1
  · rw [h1]
    go_enter Yba.func30, Yba.ntmps30
    go_wp2_with fail
    refine (tinyRun1 _ c _ _ _ _).mono ?_
    rintro e w1 ⟨rfl, os, hw⟩
    have G : Hid (w.grownBy w1 (some blk)) := by rw [hw]; exact grown_trans (alloc_grown _ _ _) (grow_grown _ _ _)
    have H2 : Hid (Sort.HoldsK Rn.enc 4 w1 blk off d) := by
      show Sort.HoldsK _ _ _ _ _ _
      rw [hw]
      rw [hn, h1] at HH
      exact Sort.holdsK_grow _ _ _ _ blk off d (by simp; omega) HH.out
    clear hw
    go_wp2_with fail
    go_end0
    exact ⟨rfl, d, Sort.permIn_refl _ _ _, fun i j _ _ _ => by omega, H2.out, G.out⟩
  · have HS : Hid (∃ d0, d0 = d) := ⟨d, rfl⟩
    have HC : Hid (Calls Yba.prog 32 #[.iface 30 (.slice (some ⟨blk, off, none⟩) n c), .func (.func 44) #[] #[.pointer (some ⟨w.heap.size, 0, none⟩)]] (w.alloc (.cells #[.slice (some ⟨blk, off, none⟩) n c] 30)) fun e w' =>
      e = .returned (.tuple #[]) ∧ ∃ d', Sort.PermIn 0 d.size d d' ∧ Sort.SortedIn ltFirst 0 d.size d' ∧ Sort.HoldsK Rn.enc 4 w' blk off d' ∧ w.grownBy w' (some blk)) := by
      show Calls _ _ _ _ _
      subst hn
      refine (slice32Run blk off c w.heap.size d (by omega) (by omega) _ HH.out (by simp; omega) (by simp) (by simp) (by omega)).mono ?_
      rintro e w' ⟨rfl, d', n, os, p, q, rfl⟩
      refine ⟨rfl, d', p, q, ?_, grown_trans (alloc_grown _ _ _) (sorted_grown _ _ _ _ _ _ _ _)⟩
      refine Sort.holdsK_grow _ _ _ _ blk off d' (by simp [Sort.putRowK]; omega) ?_
      exact Sort.holdsK_putRowK _ _ _ blk off d d' (Sort.holdsK_ahead _ _ _ _ _ _ _ HH.out) p.1
    rw [← hn]
    rw [← hn] at HC
    clear HH HS
    have hn2 : n ≤ 1048576 := by omega
    clear hn h1 hsz hd
    go_enter Yba.func30, Yba.ntmps30
    go_wp2_with fail
    refine Calls.mono HC.out ?_
    rintro e w1 ⟨rfl, h⟩
    have HP : Hid _ := h
    clear h
    go_wp2_with fail
    go_end0
    exact ⟨rfl, HP.out⟩

end Go.Proofs.Ybulkebla
