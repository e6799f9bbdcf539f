import Derived.Test.YbulkeblaACl
/-! index's first closure (33), and sort.Slice under it. -/
namespace Go.Proofs.Ybulkebla
open Go.Shelf Go.RowKit Go.Lib
set_option linter.unusedVariables false
set_option linter.unusedSectionVars false
variable [Inhabited Rn] [Inhabited Hs]

set_option maxHeartbeats 4000000 in
set_option maxRecDepth 100000 in
theorem less33 (blk off c cb C pb nb sb size S P p : Nat) (W : World) (G : Nat → Nat) (N : Nat → ByteArray) (h1 : W.cell? ⟨cb, 0, none⟩ = some (.pointer (some ⟨C, 0, none⟩))) (h2 : W.cell? ⟨pb, 0, none⟩ = some (.int .i64 p))
    (h3 : W.cell? ⟨C, 9, none⟩ = some (.slice (some ⟨nb, 0, none⟩) S S)) (h4 : W.cell? ⟨C, 7, none⟩ = some (.slice (some ⟨sb, 0, none⟩) P P)) (h5 : W.cell? ⟨sb, p, none⟩ = some (.slice (some ⟨blk, off, none⟩) size c))
    (hp : p < P) (hP : P ≤ 6) (hS : S ≤ 6) (hG : ∀ t, t < size → G t < S)
    (hc : ∀ t, t < size → W.cell? ⟨blk, off + t * 2, none⟩ = some (.int .i64 (G t : Nat))) (hN : ∀ t, t < size → W.cell? ⟨nb, G t, none⟩ = some (.string (N t))) (i j : Nat) (hi : i < size) (hj : j < size) (hsz : size < 4611686018427387904) :
    Calls Yba.prog 33 #[.int .i64 i, .int .i64 j, .pointer (some ⟨cb, 0, none⟩), .pointer (some ⟨pb, 0, none⟩)] W fun e w' => e = .returned (.bool (Op.bytesLess (N i).toList (N j).toList)) ∧ ∃ q, w' = W.drewN q := by
  have ci := hc i hi
  have cj := hc j hj
  have ni := hN i hi
  have nj := hN j hj
  have gi := hG i hi
  have gj := hG j hj
  clear hc hN hG
  go_enter Yba.func33, Yba.ntmps33
  go_wp2_with fail
  go_big_quiet (fail)
  go_wp2_with fail
  go_ret
  exact ⟨rfl, nq, rfl⟩

/-- A held section: its number and how many items. -/
structure Sc where
  id : Nat
  items : Int
def Sc.enc (r : Sc) : List Value := [.int .i64 (r.id : Nat), .int .i64 r.items]

variable [Inhabited Sc]
/-- The place of a section's word in byte order: apple, date, fig, kiwi, pear, plum. -/
def rank : Nat → Nat
  | 0 => 4
  | 1 => 2
  | 2 => 5
  | 3 => 0
  | 4 => 3
  | _ => 1

theorem less_rank_aux : ∀ a b : Fin 6, Op.bytesLess (nm (a.val : Int)).data.toList (nm (b.val : Int)).data.toList = decide (rank a.val < rank b.val) := by decide
theorem less_rank (a b : Nat) (ha : a < 6) (hb : b < 6) : Op.bytesLess (nm (a : Int)).toList (nm (b : Int)).toList = decide (rank a < rank b) := by
  rw [Lib.toList_data, Lib.toList_data]
  exact less_rank_aux ⟨a, ha⟩ ⟨b, hb⟩
theorem rank_inj_aux : ∀ a b : Fin 6, rank a.val = rank b.val → a = b := by decide
theorem rank_inj {a b : Nat} (ha : a < 6) (hb : b < 6) (h : rank a = rank b) : a = b := by
  have := rank_inj_aux ⟨a, ha⟩ ⟨b, hb⟩ h
  simpa using this

/-- The sections that have a word. -/
abbrev Named (pres : Nat → Bool) : Type := { x : Sc // pres x.id = true }
def Named.enc {pres : Nat → Bool} (x : Named pres) : List Value := x.val.enc
def ltName {pres : Nat → Bool} (x y : Named pres) : Bool := decide (rank x.val.id < rank y.val.id)
theorem swo_name {pres : Nat → Bool} [Inhabited (Named pres)] : Sort.SWO (ltName (pres := pres)) where
  irrefl x := by simp [ltName]
  trans x y z h1 h2 := by simp only [ltName, decide_eq_true_eq] at *; omega
  ntrans x y z h1 h2 := by simp only [ltName, decide_eq_false_iff_not] at *; omega

theorem slice32Sec (pres : Nat → Bool) [Inhabited (Named pres)] (blk off c cb C pb nb sb S P p : Nat) (d : Array (Named pres)) (hd2 : 2 ≤ d.size) (hsz : d.size < 4611686018427387904) (w : World) (hH : Sort.HoldsK (Named.enc (pres := pres)) 2 w blk off d) (hblk : blk < w.heap.size)
    (h1 : w.cell? ⟨cb, 0, none⟩ = some (.pointer (some ⟨C, 0, none⟩))) (h2 : w.cell? ⟨pb, 0, none⟩ = some (.int .i64 p))
    (h3 : w.cell? ⟨C, 9, none⟩ = some (.slice (some ⟨nb, 0, none⟩) S S)) (h4 : w.cell? ⟨C, 7, none⟩ = some (.slice (some ⟨sb, 0, none⟩) P P)) (h5 : w.cell? ⟨sb, p, none⟩ = some (.slice (some ⟨blk, off, none⟩) d.size c))
    (hp : p < P) (hP : P ≤ 6) (hS : S ≤ 6) (hN : ∀ t, pres t = true → t < S ∧ w.cell? ⟨nb, t, none⟩ = some (.string (nm (t : Int))))
    (k1 : cb < w.heap.size ∧ cb ≠ blk) (k2 : pb < w.heap.size ∧ pb ≠ blk) (k3 : C < w.heap.size ∧ C ≠ blk) (k4 : sb < w.heap.size ∧ sb ≠ blk) (k5 : nb < w.heap.size ∧ nb ≠ blk) :
    Calls Yba.prog 32 #[.iface 54 (.slice (some ⟨blk, off, none⟩) d.size c), .func (.func 33) #[] #[.pointer (some ⟨cb, 0, none⟩), .pointer (some ⟨pb, 0, none⟩)]] w fun e w' =>
      e = .returned (.tuple #[]) ∧ ∃ d' n os, Sort.PermIn 0 d.size d d' ∧ Sort.SortedIn (ltName (pres := pres)) 0 d.size d' ∧ w' = Sort.grow (Sort.putRowK (Named.enc (pres := pres)) 2 (Sort.ahead w n) blk off d') os := by
  have hless : LessReadsK Yba.prog 33 #[.pointer (some ⟨cb, 0, none⟩), .pointer (some ⟨pb, 0, none⟩)] (Named.enc (pres := pres)) 2 (ltName (pres := pres)) blk off d.size w := by
    intro m os dk hs i j hi hj
    have e : sortWorldK (Named.enc (pres := pres)) 2 w blk off m dk os = Sort.putRowK (Named.enc (pres := pres)) 2 (Sort.grow (Sort.ahead w m) os) blk off dk := by
      unfold sortWorldK; rw [Sort.putRowK_grow _ _ (Sort.ahead w m) _ blk off _ hblk]
    have hHg : Sort.HoldsK (Named.enc (pres := pres)) 2 (Sort.grow (Sort.ahead w m) os) blk off d := Sort.holdsK_grow _ _ _ _ blk off d hblk (Sort.holdsK_ahead _ _ _ _ _ _ _ hH)
    have old : ∀ a : Addr, a.block < w.heap.size → a.block ≠ blk → (sortWorldK (Named.enc (pres := pres)) 2 w blk off m dk os).cell? a = w.cell? a := fun a ha hb => by
      rw [e, Sort.cell?_putRowK_other _ _ _ blk off dk _ hb, Sort.cell?_grow _ _ _ (by exact ha)]; rfl
    have hr := less33 blk off c cb C pb nb sb d.size S P p (sortWorldK (Named.enc (pres := pres)) 2 w blk off m dk os) (fun t => dk[t]!.val.id) (fun t => nm (dk[t]!.val.id : Int))
      (by rw [old _ k1.1 k1.2]; exact h1) (by rw [old _ k2.1 k2.2]; exact h2) (by rw [old _ k3.1 k3.2]; exact h3) (by rw [old _ k3.1 k3.2]; exact h4) (by rw [old _ k4.1 k4.2]; exact h5) hp hP hS
      (fun t ht => (hN _ dk[t]!.2).1) (fun t ht => by rw [e]; exact ((Sort.holdsK_putRowK _ _ _ blk off d dk hHg hs).cell (i := t) (c := 0) (by omega) (by omega)).1)
      (fun t ht => by rw [old _ k5.1 k5.2]; exact (hN _ dk[t]!.2).2) i j hi hj hsz
    have a1 := (hN _ dk[i]!.2).1
    have a2 := (hN _ dk[j]!.2).1
    rw [less_rank _ _ (by omega) (by omega)] at hr
    exact hr
  exact Any.sort_Slice_cells_sorted Yba.slice32 54 56 Yba.t54 Yba.t56 (by kernel_rfl) (by kernel_rfl) (by kernel_rfl) (by kernel_rfl) 25 (fun _ => by kernel_rfl) (Named.enc (pres := pres)) 2 (fun _ => rfl) (by kernel_rfl) (fun _ => by kernel_rfl)
    (fun x v hv => by simp [Named.enc, Sc.enc] at hv; rcases hv with rfl | rfl <;> rfl) (ltName (pres := pres)) swo_name 33 _
    (enters_of Yba.func33 (by kernel_rfl) rfl) blk off c d hd2 hsz 98 (by rw [swK56 _ hd2]; kernel_rfl) false
    (fun args W => run_callFunc_extern Yba.func98 (by kernel_rfl) (by kernel_rfl) (by kernel_rfl) (e := Extern.ReflectliteSwapper.swap false) (by kernel_rfl) args W) w hless hH hblk

end Go.Proofs.Ybulkebla
