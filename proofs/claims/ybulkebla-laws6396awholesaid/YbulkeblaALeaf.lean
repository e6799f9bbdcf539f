import Derived.Test.YbulkeblaAUnion
import Derived.Test.YbulkeblaCompare
import Derived.Sort.Grow
import Derived.Sort.Statements
/-! zzs6396aname (6), zzs6396acmprun (10), zzs6396acmpspan (18), zzs6396aunion (13) on no runs. -/
namespace Go.Proofs.Ybulkebla
open Go.RowKit Go.Lib
set_option linter.unusedVariables false

set_option maxHeartbeats 1000000 in
theorem unionEmpty (a : Option Addr) (c : Nat) (m : Value) (w : World) :
    Calls Yba.prog 13 #[.slice a 0 c, m] w fun e w' => e = .returned (.tuple #[.slice none 0 0, .int .i64 0]) ∧ w' = w := by
  go_enter Yba.func13, Yba.ntmps13
  go_wp2_with fail
  go_ret2
  exact ⟨rfl, rfl⟩

/-- The word of a section. -/
def nm (i : Int) : ByteArray :=
  if i = 0 then ⟨#[112, 101, 97, 114]⟩ else if i = 1 then ⟨#[102, 105, 103]⟩ else if i = 2 then ⟨#[112, 108, 117, 109]⟩ else if i = 3 then ⟨#[97, 112, 112, 108, 101]⟩ else if i = 4 then ⟨#[107, 105, 119, 105]⟩ else ⟨#[100, 97, 116, 101]⟩

set_option maxHeartbeats 1000000 in
theorem aname (i : Int) (w : World) : Calls Yba.prog 6 #[.int .i64 i] w fun e w' => e = .returned (.string (nm i)) ∧ w' = w := by
  unfold nm
  by_cases h0 : i = 0
  · subst h0
    go_enter Yba.func6, Yba.ntmps6
    go_wp2_with fail
    go_ret
    exact ⟨rfl, rfl⟩
  by_cases h1 : i = 1
  · subst h1
    go_enter Yba.func6, Yba.ntmps6
    go_wp2_with fail
    go_ret
    exact ⟨rfl, rfl⟩
  by_cases h2 : i = 2
  · subst h2
    go_enter Yba.func6, Yba.ntmps6
    go_wp2_with fail
    go_ret
    exact ⟨rfl, rfl⟩
  by_cases h3 : i = 3
  · subst h3
    go_enter Yba.func6, Yba.ntmps6
    go_wp2_with fail
    go_ret
    exact ⟨rfl, rfl⟩
  by_cases h4 : i = 4
  · subst h4
    go_enter Yba.func6, Yba.ntmps6
    go_wp2_with fail
    go_ret
    exact ⟨rfl, rfl⟩
  · rw [if_neg h0, if_neg h1, if_neg h2, if_neg h3, if_neg h4]
    have b0 : (i == 0) = false := by simp [h0]
    have b1 : (i == 1) = false := by simp [h1]
    have b2 : (i == 2) = false := by simp [h2]
    have b3 : (i == 3) = false := by simp [h3]
    have b4 : (i == 4) = false := by simp [h4]
    go_enter Yba.func6, Yba.ntmps6
    go_wp2_with fail
    go_ret
    exact ⟨rfl, rfl⟩

/-- A run: its section's number, first item, count (its word is the number's). -/
structure Rn where
  id : Int
  first : Int
  count : Int
def Rn.enc (r : Rn) : List Value := [.string (nm r.id), .int .i64 r.id, .int .i64 r.first, .int .i64 r.count]

/-- A span and the peer that holds it. -/
structure Hs where
  first : Int
  last : Int
  peer : Int
def Hs.enc (r : Hs) : List Value := [.int .i64 r.first, .int .i64 r.last, .int .i32 r.peer]

set_option linter.unusedSectionVars false
variable [Inhabited Rn] [Inhabited Hs]

def cmp3 (x y : Int) (z : Int) : Int := if x = y then z else if x < y then -1 else 1
def cmpRun (x y : Rn) : Int := cmp3 x.first y.first (cmp3 x.count y.count (cmp3 x.id y.id 0))
def cmpSpan (x y : Hs) : Int := cmp3 x.first y.first (cmp3 x.peer y.peer (cmp3 x.last y.last 0))

theorem compare_self : ∀ l : List UInt8, Lib.compareBytes l l = 0
  | [] => rfl
  | a :: l => by
    rw [Lib.compareBytes, if_neg (UInt8.lt_irrefl a), if_neg (UInt8.lt_irrefl a)]
    exact compare_self l

theorem two_boxes (w : World) (A B : Obj) : ∃ q os, (w.alloc A).alloc B = Sort.grow (w.drewN q) os :=
  ⟨0, #[A] ++ #[B], by rw [Sort.alloc_eq_grow, Sort.alloc_eq_grow, Sort.grow_grow]; rfl⟩

set_option maxHeartbeats 2000000 in
set_option maxRecDepth 100000 in
theorem acmprun (x y : Rn) (w : World) : Calls Yba.prog 10 #[.agg x.enc.toArray, .agg y.enc.toArray] w fun e w' => e = .returned (.int .i64 (cmpRun x y)) ∧ ∃ q os, w' = Sort.grow (w.drewN q) os := by
  unfold Rn.enc cmpRun cmp3
  by_cases h1 : x.first = y.first
  · have b1 : (x.first != y.first) = false := by simp [h1]
    rw [if_pos h1]
    by_cases h2 : x.count = y.count
    · have b2 : (x.count != y.count) = false := by simp [h2]
      rw [if_pos h2]
      by_cases h3 : x.id = y.id
      · have b3 : (x.id != y.id) = false := by simp [h3]
        rw [if_pos h3, h3, h1, h2]
        go_enter Yba.func10, Yba.ntmps10
        go_wp2_with (go_at_call 37; refine (Yba.strings_Compare _ _ _).mono ?_; rintro e w' ⟨rfl, rfl⟩)
        go_ret
        exact ⟨by rw [compare_self]; rfl, two_boxes _ _ _⟩
      · have b3 : (x.id != y.id) = true := by simp [h3]
        rw [if_neg h3, h1, h2]
        by_cases h4 : x.id < y.id
        · rw [if_pos h4]
          go_enter Yba.func10, Yba.ntmps10
          go_wp2_with fail
          go_ret
          exact ⟨rfl, two_boxes _ _ _⟩
        · rw [if_neg h4]
          go_enter Yba.func10, Yba.ntmps10
          go_wp2_with fail
          go_ret
          exact ⟨rfl, two_boxes _ _ _⟩
    · have b2 : (x.count != y.count) = true := by simp [h2]
      rw [if_neg h2, h1]
      by_cases h4 : x.count < y.count
      · rw [if_pos h4]
        go_enter Yba.func10, Yba.ntmps10
        go_wp2_with fail
        go_ret
        exact ⟨rfl, two_boxes _ _ _⟩
      · rw [if_neg h4]
        go_enter Yba.func10, Yba.ntmps10
        go_wp2_with fail
        go_ret
        exact ⟨rfl, two_boxes _ _ _⟩
  · have b1 : (x.first != y.first) = true := by simp [h1]
    rw [if_neg h1]
    by_cases h4 : x.first < y.first
    · rw [if_pos h4]
      go_enter Yba.func10, Yba.ntmps10
      go_wp2_with fail
      go_ret
      exact ⟨rfl, two_boxes _ _ _⟩
    · rw [if_neg h4]
      go_enter Yba.func10, Yba.ntmps10
      go_wp2_with fail
      go_ret
      exact ⟨rfl, two_boxes _ _ _⟩

set_option maxHeartbeats 2000000 in
set_option maxRecDepth 100000 in
theorem acmpspan (x y : Hs) (w : World) : Calls Yba.prog 18 #[.agg x.enc.toArray, .agg y.enc.toArray] w fun e w' => e = .returned (.int .i64 (cmpSpan x y)) ∧ ∃ q os, w' = Sort.grow (w.drewN q) os := by
  unfold Hs.enc cmpSpan cmp3
  by_cases h1 : x.first = y.first
  · have b1 : (x.first != y.first) = false := by simp [h1]
    rw [if_pos h1]
    by_cases h2 : x.peer = y.peer
    · have b2 : (x.peer != y.peer) = false := by simp [h2]
      rw [if_pos h2]
      by_cases h3 : x.last = y.last
      · have b3 : (x.last != y.last) = false := by simp [h3]
        rw [if_pos h3, h3, h1, h2]
        go_enter Yba.func18, Yba.ntmps18
        go_wp2_with fail
        go_ret
        exact ⟨rfl, two_boxes _ _ _⟩
      · have b3 : (x.last != y.last) = true := by simp [h3]
        rw [if_neg h3, h1, h2]
        by_cases h4 : x.last < y.last
        · rw [if_pos h4]
          go_enter Yba.func18, Yba.ntmps18
          go_wp2_with fail
          go_ret
          exact ⟨rfl, two_boxes _ _ _⟩
        · rw [if_neg h4]
          go_enter Yba.func18, Yba.ntmps18
          go_wp2_with fail
          go_ret
          exact ⟨rfl, two_boxes _ _ _⟩
    · have b2 : (x.peer != y.peer) = true := by simp [h2]
      rw [if_neg h2, h1]
      by_cases h4 : x.peer < y.peer
      · rw [if_pos h4]
        go_enter Yba.func18, Yba.ntmps18
        go_wp2_with fail
        go_ret
        exact ⟨rfl, two_boxes _ _ _⟩
      · rw [if_neg h4]
        go_enter Yba.func18, Yba.ntmps18
        go_wp2_with fail
        go_ret
        exact ⟨rfl, two_boxes _ _ _⟩
  · have b1 : (x.first != y.first) = true := by simp [h1]
    rw [if_neg h1]
    by_cases h4 : x.first < y.first
    · rw [if_pos h4]
      go_enter Yba.func18, Yba.ntmps18
      go_wp2_with fail
      go_ret
      exact ⟨rfl, two_boxes _ _ _⟩
    · rw [if_neg h4]
      go_enter Yba.func18, Yba.ntmps18
      go_wp2_with fail
      go_ret
      exact ⟨rfl, two_boxes _ _ _⟩

end Go.Proofs.Ybulkebla
