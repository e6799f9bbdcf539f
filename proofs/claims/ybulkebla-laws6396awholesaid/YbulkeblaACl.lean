import Derived.Test.YbulkeblaAEq
/-! index's two closures (33, 34), and sort.Slice under them. -/
namespace Go.Proofs.Ybulkebla
open Go.Shelf Go.RowKit Go.Lib
set_option linter.unusedVariables false
set_option linter.unusedSectionVars false
variable [Inhabited Rn] [Inhabited Hs]


theorem swK35 (n : Nat) (h2 : 2 ≤ n) : Lib.swapperK n Yba.t35 25 = 9 := by
  have a : Yba.t35.hasPointers = false := by kernel_rfl
  have b : Yba.t35.bytes = 24 := by kernel_rfl
  have c : (n == 0) = false := by simp; omega
  have d : (n == 1) = false := by simp; omega
  simp [Lib.swapperK, a, b, c, d]
theorem swK56 (n : Nat) (h2 : 2 ≤ n) : Lib.swapperK n Yba.t56 25 = 9 := by
  have a : Yba.t56.hasPointers = false := by kernel_rfl
  have b : Yba.t56.bytes = 16 := by kernel_rfl
  have c : (n == 0) = false := by simp; omega
  have d : (n == 1) = false := by simp; omega
  simp [Lib.swapperK, a, b, c, d]

def ltSpan (x y : Hs) : Bool := decide (x.first < y.first)
theorem swo_ltSpan : Sort.SWO ltSpan where
  irrefl x := by simp [ltSpan]
  trans x y z h1 h2 := by simp only [ltSpan, decide_eq_true_eq] at *; omega
  ntrans x y z h1 h2 := by simp only [ltSpan, decide_eq_false_iff_not] at *; omega

set_option maxHeartbeats 2000000 in
set_option maxRecDepth 100000 in
theorem less34 (blk off c cb C size : Nat) (W : World) (G : Nat → Int) (h1 : W.cell? ⟨cb, 0, none⟩ = some (.pointer (some ⟨C, 0, none⟩))) (h2 : W.cell? ⟨C, 5, none⟩ = some (.slice (some ⟨blk, off, none⟩) size c))
    (hc : ∀ t, t < size → W.cell? ⟨blk, off + t * 3, none⟩ = some (.int .i64 (G t))) (i j : Nat) (hi : i < size) (hj : j < size) (hsz : size < 4611686018427387904) :
    Calls Yba.prog 34 #[.int .i64 i, .int .i64 j, .pointer (some ⟨cb, 0, none⟩)] W fun e w' => e = .returned (.bool (decide (G i < G j))) ∧ ∃ q, w' = W.drewN q := by
  have ci := hc i hi
  have cj := hc j hj
  clear hc
  go_enter Yba.func34, Yba.ntmps34
  go_wp2_with fail
  go_quiet (fail)
  go_wp2_with fail
  go_ret
  exact ⟨rfl, nq, rfl⟩

theorem slice32Span (blk off c cb C : Nat) (d : Array Hs) (h2 : 2 ≤ d.size) (hsz : d.size < 4611686018427387904) (w : World) (hH : Sort.HoldsK Hs.enc 3 w blk off d) (hblk : blk < w.heap.size)
    (hcb : w.cell? ⟨cb, 0, none⟩ = some (.pointer (some ⟨C, 0, none⟩))) (hcb1 : cb < w.heap.size) (hcb2 : cb ≠ blk)
    (hC : w.cell? ⟨C, 5, none⟩ = some (.slice (some ⟨blk, off, none⟩) d.size c)) (hC1 : C < w.heap.size) (hC2 : C ≠ blk) :
    Calls Yba.prog 32 #[.iface 36 (.slice (some ⟨blk, off, none⟩) d.size c), .func (.func 34) #[] #[.pointer (some ⟨cb, 0, none⟩)]] w fun e w' =>
      e = .returned (.tuple #[]) ∧ ∃ d' n os, Sort.PermIn 0 d.size d d' ∧ Sort.SortedIn ltSpan 0 d.size d' ∧ w' = Sort.grow (Sort.putRowK Hs.enc 3 (Sort.ahead w n) blk off d') os := by
  have hless : LessReadsK Yba.prog 34 #[.pointer (some ⟨cb, 0, none⟩)] Hs.enc 3 ltSpan blk off d.size w := by
    intro m os dk hs i j hi hj
    have e : sortWorldK Hs.enc 3 w blk off m dk os = Sort.putRowK Hs.enc 3 (Sort.grow (Sort.ahead w m) os) blk off dk := by
      unfold sortWorldK; rw [Sort.putRowK_grow _ _ (Sort.ahead w m) _ blk off _ hblk]
    have hHg : Sort.HoldsK Hs.enc 3 (Sort.grow (Sort.ahead w m) os) blk off d := Sort.holdsK_grow _ _ _ _ blk off d hblk (Sort.holdsK_ahead _ _ _ _ _ _ _ hH)
    refine less34 blk off c cb C d.size _ (fun t => dk[t]!.first) ?_ ?_ (fun t ht => ?_) i j hi hj (by omega)
    · rw [e, Sort.cell?_putRowK_other _ _ _ blk off dk _ (by exact hcb2), Sort.cell?_grow _ _ _ (by exact hcb1)]; exact hcb
    · rw [e, Sort.cell?_putRowK_other _ _ _ blk off dk _ (by exact hC2), Sort.cell?_grow _ _ _ (by exact hC1)]; exact hC
    · rw [e]; exact ((Sort.holdsK_putRowK _ _ _ blk off d dk hHg hs).cell (i := t) (c := 0) (by omega) (by omega)).1
  exact Any.sort_Slice_cells_sorted Yba.slice32 36 35 Yba.t36 Yba.t35 (by kernel_rfl) (by kernel_rfl) (by kernel_rfl) (by kernel_rfl) 25 (fun _ => by kernel_rfl) Hs.enc 3 (fun _ => rfl) (by kernel_rfl) (fun _ => by kernel_rfl)
    (fun x v hv => by simp [Hs.enc] at hv; rcases hv with rfl | rfl | rfl <;> rfl) ltSpan swo_ltSpan 34 _
    (enters_of Yba.func34 (by kernel_rfl) rfl) blk off c d h2 hsz 98 (by rw [swK35 _ h2]; kernel_rfl) false
    (fun args W => run_callFunc_extern Yba.func98 (by kernel_rfl) (by kernel_rfl) (by kernel_rfl) (e := Extern.ReflectliteSwapper.swap false) (by kernel_rfl) args W) w hless hH hblk

theorem swK35_0 : Lib.swapperK 0 Yba.t35 25 = 1 := rfl
theorem swK35_1 : Lib.swapperK 1 Yba.t35 25 = 2 := rfl
theorem swK56_0 : Lib.swapperK 0 Yba.t56 25 = 1 := rfl
theorem swK56_1 : Lib.swapperK 1 Yba.t56 25 = 2 := rfl
theorem tinySpan0 (a : Option Addr) (c : Nat) (fn : Fn) (la lb : Array Value) (w : World) :
    Calls Yba.prog 32 #[.iface 36 (.slice a 0 c), .func fn la lb] w fun e w' => e = .returned (.tuple #[]) ∧ ∃ os, w' = Sort.grow w os :=
  Any.sort_Slice_tiny Yba.slice32 36 35 Yba.t36 Yba.t35 (by kernel_rfl) (by kernel_rfl) (by kernel_rfl) (by kernel_rfl) 25 (fun _ => by kernel_rfl) a 0 c (by omega) 90 (by rw [swK35_0]; kernel_rfl) fn la lb w
theorem tinySpan1 (a : Option Addr) (c : Nat) (fn : Fn) (la lb : Array Value) (w : World) :
    Calls Yba.prog 32 #[.iface 36 (.slice a 1 c), .func fn la lb] w fun e w' => e = .returned (.tuple #[]) ∧ ∃ os, w' = Sort.grow w os :=
  Any.sort_Slice_tiny Yba.slice32 36 35 Yba.t36 Yba.t35 (by kernel_rfl) (by kernel_rfl) (by kernel_rfl) (by kernel_rfl) 25 (fun _ => by kernel_rfl) a 1 c (by omega) 91 (by rw [swK35_1]; kernel_rfl) fn la lb w
theorem tinySec0 (a : Option Addr) (c : Nat) (fn : Fn) (la lb : Array Value) (w : World) :
    Calls Yba.prog 32 #[.iface 54 (.slice a 0 c), .func fn la lb] w fun e w' => e = .returned (.tuple #[]) ∧ ∃ os, w' = Sort.grow w os :=
  Any.sort_Slice_tiny Yba.slice32 54 56 Yba.t54 Yba.t56 (by kernel_rfl) (by kernel_rfl) (by kernel_rfl) (by kernel_rfl) 25 (fun _ => by kernel_rfl) a 0 c (by omega) 90 (by rw [swK56_0]; kernel_rfl) fn la lb w
theorem tinySec1 (a : Option Addr) (c : Nat) (fn : Fn) (la lb : Array Value) (w : World) :
    Calls Yba.prog 32 #[.iface 54 (.slice a 1 c), .func fn la lb] w fun e w' => e = .returned (.tuple #[]) ∧ ∃ os, w' = Sort.grow w os :=
  Any.sort_Slice_tiny Yba.slice32 54 56 Yba.t54 Yba.t56 (by kernel_rfl) (by kernel_rfl) (by kernel_rfl) (by kernel_rfl) 25 (fun _ => by kernel_rfl) a 1 c (by omega) 91 (by rw [swK56_1]; kernel_rfl) fn la lb w

end Go.Proofs.Ybulkebla
