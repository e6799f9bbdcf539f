import Derived.Test.YbulkeblaPdqP
import Derived.Test.YbulkeblaIns
import Derived.Test.YbulkeblaHeap
import Derived.Test.YbulkeblaRev
import Derived.Test.YbulkeblaPart
import Derived.Test.YbulkeblaPeq
import Derived.Test.YbulkeblaPis
import Derived.Test.YbulkeblaRnd
import Derived.Test.YbulkeblaPiv2
/-! slices.pdqsortOrdered at int32 (43). -/
namespace Go.Proofs.Ybulkebla
open Go.RowKit
set_option linter.unusedVariables false

theorem insB (B blk off cap n x y : Nat) (d : Array Int) (w0 w : World) (hS : St B blk off n w0 w d) (hB : B ≤ blk) (hxy : x ≤ y) (hy : y ≤ n) (hn : n ≤ 4096) :
    Calls Yba.prog 81 #[.slice (some ⟨blk, off, none⟩) n cap, .int .i64 x, .int .i64 y] w fun e w' =>
      e = .returned (.tuple #[]) ∧ ∃ d', Sort.PermIn x y d d' ∧ Sort.SortedIn Sort.ltInt x y d' ∧ St B blk off n w0 w' d' := by
  refine (insertion B blk off cap n x y d w0 w hS hB hxy hy hn).mono ?_
  rintro e w' ⟨rfl, S⟩
  obtain ⟨p1, p2⟩ := Sort.insertionSort_holds (lt := Sort.ltInt) Sort.swo_ltInt d x y hxy (by rw [hS.size]; exact hy)
  exact ⟨rfl, _, p1, p2, S⟩

theorem heapB (B blk off cap n x y : Nat) (d : Array Int) (w0 w : World) (hS : St B blk off n w0 w d) (hB : B ≤ blk) (hxy : x < y) (hy : y ≤ n) (hn : n ≤ 4096) :
    Calls Yba.prog 82 #[.slice (some ⟨blk, off, none⟩) n cap, .int .i64 x, .int .i64 y] w fun e w' =>
      e = .returned (.tuple #[]) ∧ ∃ d', Sort.PermIn x y d d' ∧ Sort.SortedIn Sort.ltInt x y d' ∧ St B blk off n w0 w' d' := by
  obtain ⟨m, rfl⟩ : ∃ m, y = x + m := ⟨y - x, by omega⟩
  rw [Int.natCast_add]
  refine (heap B blk off cap n x m d w0 w hS hB (by omega) hy hn).mono ?_
  rintro e w' ⟨rfl, S⟩
  obtain ⟨p1, p2⟩ := Sort.heapSort_holds (lt := Sort.ltInt) Sort.swo_ltInt d x (x + m) (by omega) (by rw [hS.size]; exact hy)
  exact ⟨rfl, _, p1, p2, S⟩

theorem breakB (B blk off cap n x y : Nat) (d : Array Int) (w0 w : World) (hS : St B blk off n w0 w d) (hB : B ≤ blk) (hxy : x + 12 < y) (hy : y ≤ n) (hn : n ≤ 4096) :
    Calls Yba.prog 83 #[.slice (some ⟨blk, off, none⟩) n cap, .int .i64 x, .int .i64 y] w fun e w' =>
      e = .returned (.tuple #[]) ∧ ∃ d', Sort.PermIn x y d d' ∧ St B blk off n w0 w' d' := by
  obtain ⟨m, rfl⟩ : ∃ m, y = x + m := ⟨y - x, by omega⟩
  rw [Int.natCast_add]
  exact breakPat B blk off cap n x m d w0 w hS hB (by omega) hy hn

theorem chooseB (B blk off cap n x y : Nat) (d : Array Int) (w0 w : World) (hS : St B blk off n w0 w d) (hB : B ≤ blk) (hxy : x + 12 < y) (hy : y ≤ n) (hn : n ≤ 4096) :
    Calls Yba.prog 84 #[.slice (some ⟨blk, off, none⟩) n cap, .int .i64 x, .int .i64 y] w fun e w' =>
      ∃ (p : Nat) (h : Int), e = .returned (.tuple #[.int .i64 p, .int .i64 h]) ∧ x ≤ p ∧ p < y ∧ (h = 0 ∨ h = 1 ∨ h = 2) ∧ St B blk off n w0 w' d := by
  obtain ⟨m, rfl⟩ : ∃ m, y = x + m := ⟨y - x, by omega⟩
  rw [Int.natCast_add]
  have hlt := lt_size hS (by omega)
  refine (choosePivot B blk off cap n x m d w0 w hS hlt (by omega) hy hn).mono ?_
  rintro e w' ⟨p, h, rfl, h1, h2, h3, h4⟩
  exact ⟨p, h, rfl, h1, h2, h3, hS.step h4 hlt (by omega)⟩

theorem pisB (B blk off cap n x y : Nat) (d : Array Int) (w0 w : World) (hS : St B blk off n w0 w d) (hB : B ≤ blk) (hxy : x < y) (hy : y ≤ n) (hn : n ≤ 4096) (hl : Low x y d) :
    Calls Yba.prog 86 #[.slice (some ⟨blk, off, none⟩) n cap, .int .i64 x, .int .i64 y] w fun e w' =>
      ∃ (f : Bool) (d' : Array Int), e = .returned (.bool f) ∧ Sort.PermIn x y d d' ∧ (f = true → Sort.SortedIn Sort.ltInt x y d') ∧ St B blk off n w0 w' d' := by
  refine (partialIns B blk off cap n x y d w0 w hS hB hxy hy hn).mono ?_
  rintro e w' ⟨rfl, S⟩
  obtain ⟨p1, p2⟩ := Sort.partialInsertionSort_holds (lt := Sort.ltInt) Sort.swo_ltInt d x y hxy (by rw [hS.size]; exact hy) (low_iff.2 hl)
  exact ⟨_, _, rfl, p1, p2, S⟩

theorem partB (B blk off cap n x y p : Nat) (d : Array Int) (w0 w : World) (hS : St B blk off n w0 w d) (hB : B ≤ blk) (h1 : x ≤ p) (h2 : p < y) (hy : y ≤ n) (hn : n ≤ 4096) :
    Calls Yba.prog 89 #[.slice (some ⟨blk, off, none⟩) n cap, .int .i64 x, .int .i64 y, .int .i64 p] w fun e w' =>
      ∃ (mid : Nat) (f : Bool) (d' : Array Int), e = .returned (.tuple #[.int .i64 mid, .bool f]) ∧ PartOut x y d d' mid ∧ St B blk off n w0 w' d' := by
  obtain ⟨c, rfl⟩ : ∃ c, y = c + 1 := ⟨y - 1, by omega⟩
  rw [Int.natCast_add]
  exact partition B blk off cap n x c p d w0 w hS hB h1 h2 hy hn
theorem peqB (B blk off cap n x y p : Nat) (d : Array Int) (w0 w : World) (hS : St B blk off n w0 w d) (hB : B ≤ blk) (h1 : x ≤ p) (h2 : p < y) (hy : y ≤ n) (hn : n ≤ 4096) :
    Calls Yba.prog 88 #[.slice (some ⟨blk, off, none⟩) n cap, .int .i64 x, .int .i64 y, .int .i64 p] w fun e w' =>
      ∃ (mid : Nat) (d' : Array Int), e = .returned (.int .i64 mid) ∧ EqOut x y p d d' mid ∧ St B blk off n w0 w' d' := by
  obtain ⟨c, rfl⟩ : ∃ c, y = c + 1 := ⟨y - 1, by omega⟩
  rw [Int.natCast_add]
  exact partitionEqual B blk off cap n x c p d w0 w hS hB h1 h2 hy hn

set_option maxHeartbeats 8000000 in
set_option maxRecDepth 100000 in
theorem pdq : ∀ (N B blk off cap n a b : Nat) (L : Int) (d : Array Int) (w0 w : World), b - a ≤ N → St B blk off n w0 w d → B ≤ blk → a ≤ b → b ≤ n → n ≤ 4096 → 0 ≤ L → L ≤ 64 → Low a b d →
    Calls Yba.prog 43 #[.slice (some ⟨blk, off, none⟩) n cap, .int .i64 a, .int .i64 b, .int .i64 L] w fun e w' =>
      e = .returned (.tuple #[]) ∧ ∃ d', Sort.PermIn a b d d' ∧ Srt a b d' ∧ St B blk off n w0 w' d' := by
  intro N
  induction N using Nat.strongRecOn with
  | ind N ih =>
  intro B blk off cap n a b L d w0 w hN hS hB hab hb hn hL0 hL1 hlow
  have IH : Hid (∀ (M : Nat), M < N → ∀ (B blk off cap n a b : Nat) (L : Int) (d : Array Int) (w0 w : World), b - a ≤ M → St B blk off n w0 w d → B ≤ blk → a ≤ b → b ≤ n → n ≤ 4096 → 0 ≤ L → L ≤ 64 → Low a b d →
    Calls Yba.prog 43 #[.slice (some ⟨blk, off, none⟩) n cap, .int .i64 a, .int .i64 b, .int .i64 L] w fun e w' =>
      e = .returned (.tuple #[]) ∧ ∃ d', Sort.PermIn a b d d' ∧ Srt a b d' ∧ St B blk off n w0 w' d') := ih
  clear ih
  have HR0 : Hid (Rel a b d a b d) := Rel.start hab (by rw [hS.size]; exact hb) hlow
  have S0 : Hid (St B blk off n w0 w d) := hS
  clear hS hlow
  go_enter Yba.func43, Yba.ntmps43
  go_wp2_with fail
  go_loopw [1, 2, 3, 8, 9] (fun v1 v2 v3 v8 v9 wr => ∃ (x y : Nat) (L' : Int) (wb wp : Bool) (dk : Array Int), v1 = .int .i64 x ∧ v2 = .int .i64 y ∧ v3 = .int .i64 L' ∧ v8 = .bool wb ∧ v9 = .bool wp ∧ 0 ≤ L' ∧ L' ≤ 64 ∧
    Hid (St B blk off n w0 wr dk) ∧ Hid (Rel a b d x y dk)) (fun v1 v2 _ _ _ _ => (RowKit.intOf v2 - RowKit.intOf v1).toNat)
  case atStart => exact ⟨a, b, L, true, true, d, rfl, rfl, rfl, rfl, rfl, hL0, hL1, S0, HR0⟩
  case round =>
    obtain ⟨x, y, L', wb, wp, dk, rfl, rfl, rfl, rfl, rfl, hl0, hl1, SK, HR⟩ := hrel
    have r1 := HR.out.ax
    have r2 := HR.out.xy
    have r3 := HR.out.yb
    clear S0 HR0
    by_cases h12 : y - x ≤ 12
    · have h12z : (y : Int) - (x : Int) ≤ 12 := by omega
      go_wp2_with fail
      refine (insB B blk off cap n x y dk w0 wr SK.out hB r2 (by omega) hn).mono ?_
      rintro e w1 ⟨rfl, d1, p1, p2, S1⟩
      have F : Hid _ := HR.out.fin p1 p2
      have S1 : Hid _ := S1
      clear p1 p2
      go_wp2_with fail
      (try simp only [Exit.inBlock, Exit.then]); refine bodyPost_ret (results_none rfl _ _ _) rfl ?_
      exact ⟨rfl, d1, F.out.1, F.out.2, S1.out⟩
    have h12z : ¬ ((y : Int) - (x : Int) ≤ 12) := by omega
    by_cases hLz : L' = 0
    · subst hLz
      go_wp2_with fail
      refine (heapB B blk off cap n x y dk w0 wr SK.out hB (by omega) (by omega) hn).mono ?_
      rintro e w1 ⟨rfl, d1, p1, p2, S1⟩
      have F : Hid _ := HR.out.fin p1 p2
      have S1 : Hid _ := S1
      clear p1 p2
      go_wp2_with fail
      (try simp only [Exit.inBlock, Exit.then]); refine bodyPost_ret (results_none rfl _ _ _) rfl ?_
      exact ⟨rfl, d1, F.out.1, F.out.2, S1.out⟩
    go_upto_if 35 with fail
    go_cut [3] (fun v3 wx => ∃ (L2 : Int) (d1 : Array Int), v3 = .int .i64 L2 ∧ 0 ≤ L2 ∧ L2 ≤ 64 ∧ Hid (St B blk off n w0 wx d1) ∧ Hid (Rel a b d x y d1))
    case first =>
      cases wb with
      | false =>
        go_wp2_with fail
        refine (breakB B blk off cap n x y dk w0 wr SK.out hB (by omega) (by omega) hn).mono ?_
        rintro e w1 ⟨rfl, d1, p1, S1⟩
        have F : Hid _ := HR.out.more p1
        have S1 : Hid _ := S1
        clear p1
        go_wp2_with fail
        go_meet
        case rel => exact ⟨L' - 1, d1, rfl, by omega, by omega, S1, F⟩
      | true =>
        go_wp2_with fail
        go_meet
        case rel => exact ⟨L', dk, rfl, by omega, by omega, SK, HR⟩
    case rest =>
      clear SK HR
      obtain ⟨L2, d1, rfl, g0, g1, SK, HR⟩ := hcut
      go_wp2_with fail
      refine (chooseB B blk off cap n x y d1 w0 _ SK.out hB (by omega) (by omega) hn).mono ?_
      rintro e w2 ⟨p, h, rfl, hp1, hp2, hh, S2⟩
      have S2 : Hid _ := S2
      clear SK
      go_upto_if 50 with fail
      go_cut [11, 12] (fun v11 v12 wx => ∃ (p : Nat) (h : Int) (d2 : Array Int), v11 = .int .i64 p ∧ v12 = .int .i64 h ∧ x ≤ p ∧ p < y ∧ Hid (St B blk off n w0 wx d2) ∧ Hid (Rel a b d x y d2))
      case first =>
        by_cases h2 : h = 2
        · subst h2
          go_wp2_with fail
          refine (reverse B blk off cap n x y d1 w0 _ S2.out hB (by omega) (by omega) hn).mono ?_
          rintro e w3 ⟨rfl, d2, q1, S3⟩
          have F : Hid _ := HR.out.more q1
          have S3 : Hid _ := S3
          clear q1
          go_wp2_with fail
          go_meet
          case rel => exact ⟨y - 1 - (p - x), 1, d2, by congr 1; omega, rfl, by omega, by omega, S3, F⟩
        · go_wp2_with fail
          go_meet
          case rel => exact ⟨p, h, d1, rfl, rfl, hp1, hp2, S2, HR⟩
      case rest =>
        clear S2 HR hp1 hp2 hh
        obtain ⟨p, h, d2, rfl, rfl, hp1, hp2, SK, HR⟩ := hcut
        go_upto_region 15 with fail
        go_cut [68] (fun v wx => ∃ t : Bool, v = .bool t ∧ Hid (St B blk off n w0 wx d2))
        case first =>
          cases wb <;> cases wp <;> (go_wp2_with fail; go_meet; case rel => exact ⟨_, rfl, SK⟩)
        case rest =>
          clear SK
          obtain ⟨t, rfl, SK⟩ := hcut
          go_upto_if 68 with fail
          go_cut [] (fun wx => ∃ d3, Hid (St B blk off n w0 wx d3) ∧ Hid (Rel a b d x y d3))
          case first =>
            cases t with
            | false =>
              go_wp2_with fail
              go_meet
              case rel => exact ⟨d2, SK, HR⟩
            | true =>
              go_wp2_with fail
              refine (pisB B blk off cap n x y d2 w0 _ SK.out hB (by omega) (by omega) hn HR.out.low).mono ?_
              rintro e w3 ⟨f, d3, rfl, q1, q2, S3⟩
              have S3 : Hid _ := S3
              cases f with
              | true =>
                have F : Hid _ := HR.out.fin q1 (q2 rfl)
                clear q1 q2
                go_wp2_with fail
                (try simp only [Exit.inBlock, Exit.then]); refine bodyPost_ret (results_none rfl _ _ _) rfl ?_
                exact ⟨rfl, d3, F.out.1, F.out.2, S3.out⟩
              | false =>
                have F : Hid _ := HR.out.more q1
                clear q1 q2
                go_wp2_with fail
                go_meet
                case rel => exact ⟨d3, S3, F⟩
          case rest =>
            clear SK HR
            obtain ⟨d3, SK, HR⟩ := hcut
            go_upto_region 17 with fail
            go_cut [87] (fun v wx => ∃ t : Bool, v = .bool t ∧ Hid (t = true → 0 < x ∧ Sort.ltInt d3[x - 1]! d3[p]! = false) ∧ Hid (St B blk off n w0 wx d3))
            case first =>
              have hcw := SK.out.cell
              have hfw := SK.out.froz
              by_cases hx0 : 0 < x
              · go_quiet ((go_at_call 87; refine Calls.quiet_of_same (less _ _ _)))
                go_wp2_with fail
                go_meet
                case rel => exact ⟨_, rfl, fun h => ⟨hx0, by simpa using h⟩, SK.out.drewN nq⟩
              · go_quiet ((go_at_call 87; refine Calls.quiet_of_same (less _ _ _)))
                go_wp2_with fail
                go_meet
                case rel => exact ⟨false, rfl, (fun h => by cases h), SK.out.drewN nq⟩
            case rest =>
              clear SK
              obtain ⟨t, rfl, HT, SK⟩ := hcut
              cases t with
              | true =>
                obtain ⟨hx0, hlx⟩ := HT.out rfl
                have HL : Hid _ := hlx
                clear hlx HT
                go_wp2_with fail
                refine (peqB B blk off cap n x y p d3 w0 _ SK.out hB hp1 hp2 (by omega) hn).mono ?_
                rintro e w4 ⟨mid, d4, rfl, ho, S4⟩
                have F : Hid _ := HR.out.eq hx0 HL.out ho
                have o1 := ho.am
                have o2 := ho.mb
                have S4 : Hid _ := S4
                clear ho
                go_wp2_with fail
                go_roundw
                case rel => exact ⟨mid, y, L2, wb, wp, d4, rfl, rfl, rfl, rfl, rfl, g0, g1, S4, F⟩
                case measure => simp [RowKit.intOf]; omega
              | false =>
                clear HT
                go_wp2_with fail
                refine (partB B blk off cap n x y p d3 w0 _ SK.out hB hp1 hp2 (by omega) hn).mono ?_
                rintro e w4 ⟨mid, f, d4, rfl, ho, S4⟩
                have o1 := ho.am
                have o2 := ho.mb
                have S4 : Hid _ := S4
                have HPo : Hid (PartOut x y d3 d4 mid) := ho
                have hsz3 : y ≤ d3.size := by rw [SK.out.size]; omega
                have LL : Hid (Low x mid d4) := ho.lowL hsz3 HR.out.low
                have LR : Hid (Low (mid + 1) y d4) := ho.lowR
                clear ho hsz3
                by_cases hlr : mid - x < y - mid
                · have hlz : (mid : Int) - (x : Int) < (y : Int) - (mid : Int) := by omega
                  go_wp2_with fail
                  refine (IH.out (mid - x) (by omega) B blk off cap n x mid L2 d4 w0 w4 (Nat.le_refl _) S4.out hB o1 (by omega) hn g0 g1 LL.out).mono ?_
                  rintro e w5 ⟨rfl, d5, q1, q2, S5⟩
                  have F : Hid _ := HR.out.left HPo.out q1 q2
                  have S5 : Hid _ := S5
                  clear q1 q2
                  go_wp2_with fail
                  go_roundw
                  case rel => exact ⟨mid + 1, y, L2, _, f, d5, by go_num, rfl, rfl, rfl, rfl, g0, g1, S5, F⟩
                  case measure => simp [RowKit.intOf]; omega
                · have hlz : ¬ ((mid : Int) - (x : Int) < (y : Int) - (mid : Int)) := by omega
                  have hc := IH.out (y - (mid + 1)) (by omega) B blk off cap n (mid + 1) y L2 d4 w0 w4 (Nat.le_refl _) S4.out hB (by omega) (by omega) hn g0 g1 LR.out
                  rw [Int.natCast_add] at hc
                  have HC : Hid _ := hc
                  clear hc
                  go_wp2_with fail
                  refine Calls.mono HC.out ?_
                  rintro e w5 ⟨rfl, d5, q1, q2, S5⟩
                  have F : Hid _ := HR.out.right HPo.out q1 q2
                  have S5 : Hid _ := S5
                  clear q1 q2
                  go_wp2_with fail
                  go_roundw
                  case rel => exact ⟨x, mid, L2, _, f, d5, rfl, rfl, rfl, rfl, rfl, g0, g1, S5, F⟩
                  case measure => simp [RowKit.intOf]; omega

end Go.Proofs.Ybulkebla
