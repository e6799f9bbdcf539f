import Derived.Test.YbulkeblaAL5
import Derived.Test.YbulkeblaAFl
import Derived.Deep.RegionHeld3
import Derived.Deep.AppendLies
import Derived.Deep.DrawnRows
import Derived.Test.YbulkeblaAReg
/-! index's loop over a peer's spans: held and byFirst. -/
namespace Go.Proofs.Ybulkebla
open Go.RowKit Go.Lib
set_option linter.unusedVariables false
set_option linter.unusedSectionVars false
variable [Inhabited Rn] [Inhabited Hs]

def ints (l : List Int) : List Value := l.map (Value.int .i64)
theorem ints_set (l : List Int) (i : Nat) (x : Int) : (ints l).set i (.int .i64 x) = ints (l.set i x) := by simp [ints, List.map_set]
theorem ints_at (l : List Int) (i : Nat) (x : Int) (h : l[i]? = some x) : (ints l)[i]? = some (.int .i64 x) := by simp [ints, h]
/-- The Catalog's cells; A: those that the loop leaves. -/
def cat5 (A : Nat → Value) (byf : Value) : List Value := [A 0, A 1, A 2, A 3, A 4, byf, A 6, A 7, A 8, A 9]
def hsp (p : Nat) (acc : List Sp) : List Hs := acc.map fun s => ⟨s.first, s.last, p⟩
theorem hsp_take (p : Nat) (acc : List Sp) (i : Nat) (h : i < acc.length) : hsp p (acc.take (i + 1)) = hsp p (acc.take i) ++ [⟨acc[i].first, acc[i].last, p⟩] := by
  rw [List.take_add_one, List.getElem?_eq_getElem h, Option.toList_some]
  simp only [hsp, List.map_append, List.map_cons, List.map_nil]
theorem set_self {α : Type} (l : List α) (p : Nat) (x : α) (h : l[p]? = some x) : l.set p x = l := by
  apply List.ext_getElem?
  intro j
  rw [List.getElem?_set]
  split
  · rename_i e
    subst e
    rw [if_pos (List.getElem?_eq_some_iff.1 h).1, h]
  · rfl
/-- The rows behind i spans. -/
def st2 (ρ : Lb → Option Rw) (C hl P : Nat) (A : Nat → Value) (hs : List Int) (p : Nat) (bs : List Hs) (acc : List Sp) (i : Nat) (byf : Value) : Lb → Option Rw :=
  upd (upd (upd (upd ρ (4, 3) none) (5, 0) (some (bk hl 2 1 P P (ints (hs.set p (tot (acc.take i))))))) (12, 0) (some ⟨byf, 35, 3, (bs ++ hsp p (acc.take i)).length, fl Hs.enc (bs ++ hsp p (acc.take i))⟩)) (4, 0) (some (bk C 43 10 1 1 (cat5 A byf)))
theorem st2_step (ρ : Lb → Option Rw) (C hl P : Nat) (A : Nat → Value) (hs : List Int) (p : Nat) (bs : List Hs) (acc : List Sp) (i : Nat) (byf v' : Value) (x : Option Rw) (t : Int) (n' : Nat) (xs' : List Value) (ht : tot (acc.take (i + 1)) = t)
    (hn : n' = (bs ++ hsp p (acc.take (i + 1))).length) (hx : xs' = fl Hs.enc (bs ++ hsp p (acc.take (i + 1)))) :
    upd (upd (upd (upd (upd (st2 ρ C hl P A hs p bs acc i byf) (4, 3) x) (5, 0) (some (bk hl 2 1 P P ((ints (hs.set p (tot (acc.take i)))).set p (.int .i64 t))))) (12, 0) (some ⟨v', 35, 3, n', xs'⟩)) (4, 0) (some (bk C 43 10 1 1 ((cat5 A byf).set 5 v')))) (4, 3) none = st2 ρ C hl P A hs p bs acc (i + 1) v' := by
  subst ht hn hx
  funext l
  simp only [st2, upd]
  by_cases h1 : l = (4, 3)
  · subst h1; simp
  by_cases h2 : l = (4, 0)
  · subst h2; simp [cat5]
  by_cases h3 : l = (12, 0)
  · subst h3; simp
  by_cases h4 : l = (5, 0)
  · subst h4; simp [ints_set]
  · simp [h1, h2, h3, h4]
theorem info35 : (Yba.prog.info? 35).map (fun i => (i.zero, i.size, i.bytes)) = some (some (.agg #[.int .i64 0, .int .i64 0, .int .i32 0]), 3, 24) := by kernel_rfl

set_option maxHeartbeats 4000000 in
set_option maxRecDepth 100000 in
theorem loop2 {c0 c2 c4 c5 c6 c7 c8 c9 c10 c11 c12 c13 c14 c15 c16 c17 c18 c19 c20 c21 c22 c23 c24 c25 c26 c27 c28 c29 c30 c31 c32 c33 c34 c35 c36 c37 c38 c39 c40 c41 c42 c43 c44 c45 c46 c47 c48 c49 c50 c51 c52 c53 c54 c55 c56 c57 c58 c59 c60 c61 c62 c63 c64 c65 c69 c70 c71 c72 c73 c74 c75 c76 c77 c78 c79 c80 c81 c82 c83 c84 c85 c86 c87 c88 c89 c90 c91 c92 c93 c94 c95 c96 c97 c98 c99 c100 c101 c102 c103 c104 c105 c106 c107 c108 c109 c110 c111 c112 c113 c114 c115 c116 c117 c118 c119 c120 c121 c122 c123 c124 c125 c126 c127 c128 c129 c130 c131 c132 c133 c134 c135 c136 c137 c138 c139 c140 c141 c142 c143 c144 c145 c146 c147 c148 c149 c150 c151 c152 c153 c154 c155 c156 c157 c158 c159 c160 c161 c162 c163 c164 c165 c166 c167 c168 c169 c170 c171 c172 c173 c174 c175 c176 c177 c178 c179 c180 c181 c182 c183 c184 c185 c186 c187 c188 c189 c190 c191 c192 c193 c194 c195 c196 c197 c198 c199 c200 c201 c202 c203 c204 c205 c206 c207 c208 c209 c210 c211 c212 c213 c214 c215 c216 c217 c218 c219 c220 c221 c222 c223 c224 c225 c226 c227 c228 c229 c230 c231 c232 c233 c234 c235 c236 c237 c238 c239 c240 c241 c242 c243 c244 c245 c246 c247 c248 c249 c250 c251 c252 c253 c254 c255 c256 c257 c258 c259 c260 c261 c262 c263 c264 c265 c266 c267 c268 c269 c270 c271 c272 c273 c274 c275 c276 c277 c278 c279 : Value} (w0 w : World) (B : Nat) (ρ : Lb → Option Rw) (C cb pb hl P p : Nat) (A : Nat → Value) (hs : List Int) (bs : List Hs) (byf : Value) (v : Value) (acc : List Sp) (hM : Mm w0 w B ρ) (hS : Small acc)
    (hA4 : A 4 = .slice (some ⟨hl, 0, none⟩) P P) (hp : p < P) (hP : P ≤ 6) (hsl : hs.length = P) (hs0 : hs[p]? = some 0) (hbs : bs.length ≤ 100000)
    (h0 : ρ (4, 0) = some (bk C 43 10 1 1 (cat5 A byf))) (h1 : ρ (4, 1) = some (bk cb 31 1 1 1 [.pointer (some ⟨C, 0, none⟩)])) (h2 : ρ (4, 2) = some (bk pb 3 1 1 1 [.int .i64 p]))
    (h5 : ρ (5, 0) = some (bk hl 2 1 P P (ints hs))) (h12 : ρ (12, 0) = some ⟨byf, 35, 3, bs.length, fl Hs.enc bs⟩) (h20 : ρ (20, 0) = some ⟨v, 33, 2, acc.length, spc acc⟩) (Q : Exit → Act → World → Prop)
    (hexit : ∀ (u6 u68 u69 u70 u71 u72 u73 u74 u75 u76 u77 u78 u79 u80 u81 u82 u83 u84 u85 u86 u87 u88 u89 u90 u91 u92 u93 u94 u95 u96 u97 u98 u99 u100 : Value) (byf' : Value) (w' : World), Mm w0 w' B (st2 ρ C hl P A hs p bs acc acc.length byf') → Q .normal ⟨#[c0, .pointer (some ⟨cb, 0, none⟩), c2, .pointer (some ⟨pb, 0, none⟩), c4, c5, u6, c7, c8, c9, c10, c11, c12, c13, c14, c15, c16, c17, c18, c19, c20, c21, c22, c23, c24, c25, c26, c27, c28, c29, c30, c31, c32, c33, c34, c35, c36, c37, c38, c39, c40, c41, c42, c43, c44, c45, c46, c47, c48, c49, c50, c51, c52, c53, c54, c55, c56, c57, c58, c59, c60, c61, c62, c63, c64, c65, v, .int .i64 (acc.length : Nat), u68, u69, u70, u71, u72, u73, u74, u75, u76, u77, u78, u79, u80, u81, u82, u83, u84, u85, u86, u87, u88, u89, u90, u91, u92, u93, u94, u95, u96, u97, u98, u99, u100, c101, c102, c103, c104, c105, c106, c107, c108, c109, c110, c111, c112, c113, c114, c115, c116, c117, c118, c119, c120, c121, c122, c123, c124, c125, c126, c127, c128, c129, c130, c131, c132, c133, c134, c135, c136, c137, c138, c139, c140, c141, c142, c143, c144, c145, c146, c147, c148, c149, c150, c151, c152, c153, c154, c155, c156, c157, c158, c159, c160, c161, c162, c163, c164, c165, c166, c167, c168, c169, c170, c171, c172, c173, c174, c175, c176, c177, c178, c179, c180, c181, c182, c183, c184, c185, c186, c187, c188, c189, c190, c191, c192, c193, c194, c195, c196, c197, c198, c199, c200, c201, c202, c203, c204, c205, c206, c207, c208, c209, c210, c211, c212, c213, c214, c215, c216, c217, c218, c219, c220, c221, c222, c223, c224, c225, c226, c227, c228, c229, c230, c231, c232, c233, c234, c235, c236, c237, c238, c239, c240, c241, c242, c243, c244, c245, c246, c247, c248, c249, c250, c251, c252, c253, c254, c255, c256, c257, c258, c259, c260, c261, c262, c263, c264, c265, c266, c267, c268, c269, c270, c271, c272, c273, c274, c275, c276, c277, c278, c279], []⟩ w') :
    Code.wp Yba.prog (pick [true, true, true, true, true, true, false, true, false, false, true, true, false, false, true, true, false, true] (Yba.f7.body.getD .skip)) Q ⟨#[c0, .pointer (some ⟨cb, 0, none⟩), c2, .pointer (some ⟨pb, 0, none⟩), c4, c5, c6, c7, c8, c9, c10, c11, c12, c13, c14, c15, c16, c17, c18, c19, c20, c21, c22, c23, c24, c25, c26, c27, c28, c29, c30, c31, c32, c33, c34, c35, c36, c37, c38, c39, c40, c41, c42, c43, c44, c45, c46, c47, c48, c49, c50, c51, c52, c53, c54, c55, c56, c57, c58, c59, c60, c61, c62, c63, c64, c65, v, .int .i64 (acc.length : Nat), .int .i64 0, c69, c70, c71, c72, c73, c74, c75, c76, c77, c78, c79, c80, c81, c82, c83, c84, c85, c86, c87, c88, c89, c90, c91, c92, c93, c94, c95, c96, c97, c98, c99, c100, c101, c102, c103, c104, c105, c106, c107, c108, c109, c110, c111, c112, c113, c114, c115, c116, c117, c118, c119, c120, c121, c122, c123, c124, c125, c126, c127, c128, c129, c130, c131, c132, c133, c134, c135, c136, c137, c138, c139, c140, c141, c142, c143, c144, c145, c146, c147, c148, c149, c150, c151, c152, c153, c154, c155, c156, c157, c158, c159, c160, c161, c162, c163, c164, c165, c166, c167, c168, c169, c170, c171, c172, c173, c174, c175, c176, c177, c178, c179, c180, c181, c182, c183, c184, c185, c186, c187, c188, c189, c190, c191, c192, c193, c194, c195, c196, c197, c198, c199, c200, c201, c202, c203, c204, c205, c206, c207, c208, c209, c210, c211, c212, c213, c214, c215, c216, c217, c218, c219, c220, c221, c222, c223, c224, c225, c226, c227, c228, c229, c230, c231, c232, c233, c234, c235, c236, c237, c238, c239, c240, c241, c242, c243, c244, c245, c246, c247, c248, c249, c250, c251, c252, c253, c254, c255, c256, c257, c258, c259, c260, c261, c262, c263, c264, c265, c266, c267, c268, c269, c270, c271, c272, c273, c274, c275, c276, c277, c278, c279], []⟩ w := by
  have HM : Hid (Mm w0 w B ρ) := hM
  have H0 : Hid (ρ (4, 0) = some (bk C 43 10 1 1 (cat5 A byf))) := h0
  have H1 : Hid (ρ (4, 1) = some (bk cb 31 1 1 1 [.pointer (some ⟨C, 0, none⟩)])) := h1
  have H2 : Hid (ρ (4, 2) = some (bk pb 3 1 1 1 [.int .i64 p])) := h2
  have H5 : Hid (ρ (5, 0) = some (bk hl 2 1 P P (ints hs))) := h5
  have H12 : Hid (ρ (12, 0) = some ⟨byf, 35, 3, bs.length, fl Hs.enc bs⟩) := h12
  have H20 : Hid (ρ (20, 0) = some ⟨v, 33, 2, acc.length, spc acc⟩) := h20
  have HA4 : Hid (A 4 = .slice (some ⟨hl, 0, none⟩) P P) := hA4
  have HS0 : Hid (hs[p]? = some 0) := hs0
  have HSL : Hid (hs.length = P) := hsl
  have HS : Hid (Small acc) := hS
  have HBS : Hid (bs.length ≤ 100000) := hbs
  have HE : Hid (∀ (u6 u68 u69 u70 u71 u72 u73 u74 u75 u76 u77 u78 u79 u80 u81 u82 u83 u84 u85 u86 u87 u88 u89 u90 u91 u92 u93 u94 u95 u96 u97 u98 u99 u100 : Value) (byf' : Value) (w' : World), Mm w0 w' B (st2 ρ C hl P A hs p bs acc acc.length byf') → Q .normal ⟨#[c0, .pointer (some ⟨cb, 0, none⟩), c2, .pointer (some ⟨pb, 0, none⟩), c4, c5, u6, c7, c8, c9, c10, c11, c12, c13, c14, c15, c16, c17, c18, c19, c20, c21, c22, c23, c24, c25, c26, c27, c28, c29, c30, c31, c32, c33, c34, c35, c36, c37, c38, c39, c40, c41, c42, c43, c44, c45, c46, c47, c48, c49, c50, c51, c52, c53, c54, c55, c56, c57, c58, c59, c60, c61, c62, c63, c64, c65, v, .int .i64 (acc.length : Nat), u68, u69, u70, u71, u72, u73, u74, u75, u76, u77, u78, u79, u80, u81, u82, u83, u84, u85, u86, u87, u88, u89, u90, u91, u92, u93, u94, u95, u96, u97, u98, u99, u100, c101, c102, c103, c104, c105, c106, c107, c108, c109, c110, c111, c112, c113, c114, c115, c116, c117, c118, c119, c120, c121, c122, c123, c124, c125, c126, c127, c128, c129, c130, c131, c132, c133, c134, c135, c136, c137, c138, c139, c140, c141, c142, c143, c144, c145, c146, c147, c148, c149, c150, c151, c152, c153, c154, c155, c156, c157, c158, c159, c160, c161, c162, c163, c164, c165, c166, c167, c168, c169, c170, c171, c172, c173, c174, c175, c176, c177, c178, c179, c180, c181, c182, c183, c184, c185, c186, c187, c188, c189, c190, c191, c192, c193, c194, c195, c196, c197, c198, c199, c200, c201, c202, c203, c204, c205, c206, c207, c208, c209, c210, c211, c212, c213, c214, c215, c216, c217, c218, c219, c220, c221, c222, c223, c224, c225, c226, c227, c228, c229, c230, c231, c232, c233, c234, c235, c236, c237, c238, c239, c240, c241, c242, c243, c244, c245, c246, c247, c248, c249, c250, c251, c252, c253, c254, c255, c256, c257, c258, c259, c260, c261, c262, c263, c264, c265, c266, c267, c268, c269, c270, c271, c272, c273, c274, c275, c276, c277, c278, c279], []⟩ w') := hexit
  clear hM h0 h1 h2 h5 h12 h20 hA4 hs0 hS hexit hsl hbs
  have hal : acc.length ≤ 4096 := HS.out.1
  obtain ⟨n, hn⟩ : ∃ n, acc.length = n := ⟨_, rfl⟩
  rw [hn] at hal ⊢
  have HN : Hid (acc.length = n) := hn
  clear hn
  obtain ⟨i0, hi0, hz0, hz1, hz2⟩ := info_parts info35
  conv => arg 2; whnf
  go_wp2_with fail
  go_loopw [68] (fun v68 wr => ∃ (i : Nat) (by2 : Value), v68 = .int .i64 i ∧ i ≤ n ∧ Hid (Mm w0 wr B (st2 ρ C hl P A hs p bs acc i by2))) (fun v68 _ => n - (RowKit.intOf v68).toNat)
  case atStart => 
    refine ⟨0, byf, rfl, by omega, ?_⟩
    show Mm _ _ _ _
    have e1 : hs.set p (tot (acc.take 0)) = hs := set_self hs p 0 HS0.out
    have e2 : bs ++ hsp p (acc.take 0) = bs := by simp [hsp]
    have hd := HM.out.drop (4, 3)
    unfold st2
    rw [e1, e2, upd_self (upd ρ (4, 3) none) (5, 0) _ (by rw [upd_other _ _ (by simp)]; exact H5.out), upd_self (upd ρ (4, 3) none) (12, 0) _ (by rw [upd_other _ _ (by simp)]; exact H12.out), upd_self (upd ρ (4, 3) none) (4, 0) _ (by rw [upd_other _ _ (by simp)]; exact H0.out)]
    exact hd
  case round =>
    obtain ⟨i, by2, rfl, hi, HW⟩ := hrel
    by_cases hin : i < n
    · have hin2 : i < acc.length := by rw [HN.out]; exact hin
      have hr : st2 ρ C hl P A hs p bs acc i by2 (20, 0) = some ⟨v, 33, 2, acc.length, spc acc⟩ := by simp only [st2, upd]; simpa using H20.out
      have ho := HW.out.mem.own _ _ hr
      obtain ⟨g, cap, hv⟩ := Joins.ownsRow_form ho (by show 0 < acc.length; omega)
      simp only at hv
      subst hv
      rw [HN.out] at hr
      have cc := spc_at acc i hin2
      have k0 := HW.out.cell hr (i * 2) cc.1
      have k1 := HW.out.cell hr (i * 2 + 1) cc.2
      have lg := HW.out.lt hr
      have b1 := HS.out.2 acc[i] (List.getElem_mem _)
      clear cc ho
      obtain ⟨sf, HSF⟩ : ∃ sf, Hid ((acc[i]'hin2).first = sf) := ⟨_, rfl⟩
      obtain ⟨sl, HSL2⟩ : ∃ sl, Hid ((acc[i]'hin2).last = sl) := ⟨_, rfl⟩
      rw [HSF.out] at k0 b1
      rw [HSL2.out] at k1 b1
      go_wp2_with fail
      obtain ⟨g6, HG6⟩ : ∃ g6, Hid (wr.heap.size = g6) := ⟨_, rfl⟩
      rw [HG6.out]
      have M1 : Hid (Mm w0 (wr.alloc (.cells #[.int .i64 sf, .int .i64 sl] 33)) B (upd (st2 ρ C hl P A hs p bs acc i by2) (4, 3) (some (bk g6 33 2 1 1 [.int .i64 sf, .int .i64 sl])))) := HW.out.box (4, 3) #[.int .i64 sf, .int .i64 sl] 33 2 1 (by decide) rfl HG6.out
      generalize wr.alloc (.cells #[.int .i64 sf, .int .i64 sl] 33) = w1 at M1 ⊢
      have hst : ∀ l, l ≠ (4, 3) → upd (st2 ρ C hl P A hs p bs acc i by2) (4, 3) (some (bk g6 33 2 1 1 [.int .i64 sf, .int .i64 sl])) l = st2 ρ C hl P A hs p bs acc i by2 l := fun l hl => upd_other _ _ hl
      have r0 : upd (st2 ρ C hl P A hs p bs acc i by2) (4, 3) (some (bk g6 33 2 1 1 [.int .i64 sf, .int .i64 sl])) (4, 0) = some (bk C 43 10 1 1 (cat5 A by2)) := by simp [st2, upd]
      have r1 : upd (st2 ρ C hl P A hs p bs acc i by2) (4, 3) (some (bk g6 33 2 1 1 [.int .i64 sf, .int .i64 sl])) (4, 1) = some (bk cb 31 1 1 1 [.pointer (some ⟨C, 0, none⟩)]) := by simp [st2, upd, H1.out]
      have r2 : upd (st2 ρ C hl P A hs p bs acc i by2) (4, 3) (some (bk g6 33 2 1 1 [.int .i64 sf, .int .i64 sl])) (4, 2) = some (bk pb 3 1 1 1 [.int .i64 p]) := by simp [st2, upd, H2.out]
      have r3 : upd (st2 ρ C hl P A hs p bs acc i by2) (4, 3) (some (bk g6 33 2 1 1 [.int .i64 sf, .int .i64 sl])) (4, 3) = some (bk g6 33 2 1 1 [.int .i64 sf, .int .i64 sl]) := by simp [upd]
      have r5 : upd (st2 ρ C hl P A hs p bs acc i by2) (4, 3) (some (bk g6 33 2 1 1 [.int .i64 sf, .int .i64 sl])) (5, 0) = some (bk hl 2 1 P P (ints (hs.set p (tot (acc.take i))))) := by simp [st2, upd]
      have r12 : upd (st2 ρ C hl P A hs p bs acc i by2) (4, 3) (some (bk g6 33 2 1 1 [.int .i64 sf, .int .i64 sl])) (12, 0) = some ⟨by2, 35, 3, (bs ++ hsp p (acc.take i)).length, fl Hs.enc (bs ++ hsp p (acc.take i))⟩ := by simp [st2, upd]
      obtain ⟨ρ1, HR1⟩ : ∃ ρ1, Hid (upd (st2 ρ C hl P A hs p bs acc i by2) (4, 3) (some (bk g6 33 2 1 1 [.int .i64 sf, .int .i64 sl])) = ρ1) := ⟨_, rfl⟩
      rw [HR1.out] at M1 r0 r1 r2 r3 r5 r12
      clear hst
      have x1 := M1.out.cell r1 0 rfl
      have x2 : w1.cell? ⟨C, 4, none⟩ = some (.slice (some ⟨hl, 0, none⟩) P P) := M1.out.cell r0 4 (by rw [← HA4.out]; rfl)
      have x3 := M1.out.cell r2 0 rfl
      have x4 := M1.out.cell r5 p (ints_at _ p (tot (acc.take i)) (by rw [List.getElem?_set_self (by rw [HSL.out]; exact hp)]))
      have y4 := M1.out.froz r5 p
      have x5 := M1.out.cell r3 0 rfl
      have x6 := M1.out.cell r3 1 rfl
      have n1 := M1.out.ne r5 r1 (by simp)
      have n2 := M1.out.ne r5 r0 (by simp)
      have n3 := M1.out.ne r5 r2 (by simp)
      have n4 := M1.out.ne r5 r3 (by simp)
      have n1' := n1.symm
      have n2' := n2.symm
      have n3' := n3.symm
      have n4' := n4.symm
      have l0 := M1.out.lt r0
      have l1 := M1.out.lt r1
      have l2 := M1.out.lt r2
      have l3 := M1.out.lt r3
      have l5 := M1.out.lt r5
      have b2 := small_take HS.out i
      have HT := tot_take acc i hin2
      have b3 := small_take HS.out (i + 1)
      rw [HSF.out, HSL2.out] at HT
      rw [HT] at b3
      have HT2 : Hid _ := HT
      obtain ⟨t0, HT0⟩ : ∃ t0, Hid (tot (acc.take i) = t0) := ⟨_, rfl⟩
      rw [HT0.out] at b2 b3 HT2 x4
      clear HT hr k0 k1 lg
      have hp1 : (0 : Int) ≤ (p : Int) := Int.natCast_nonneg _
      have hp2 : (p : Int) < (P : Int) := by omega
      have R0 : Hid _ := r0
      have R1 : Hid _ := r1
      have R2 : Hid _ := r2
      have R3 : Hid _ := r3
      have R5 : Hid _ := r5
      have R12 : Hid _ := r12
      clear r0 r1 r2 r3 r5 r12
      refine wp_region_still_tail 15 (by kernel_rfl) (by kernel_rfl) ?_
      change wpStill _ _ (World.drew _) _ _ _
      simp only [List.take_succ_cons, List.take_zero, List.drop_succ_cons, List.drop_zero]
      repeat still_step
      refine wpStill_nil ?_
      go_wp2_with fail
      have M2 : Hid (Mm w0 (w1.setCell ⟨hl, p, none⟩ (.int .i64 (t0 + (sl - sf + 1)))).drew B (upd ρ1 (5, 0) (some (bk hl 2 1 P P ((ints (hs.set p (tot (acc.take i)))).set p (.int .i64 (t0 + (sl - sf + 1)))))))) := (M1.out.store R5.out p (.int .i64 (t0 + (sl - sf + 1)))).drew
      generalize (w1.setCell ⟨hl, p, none⟩ (.int .i64 (t0 + (sl - sf + 1)))).drew = w2 at M2 ⊢
      have q0 : upd ρ1 (5, 0) (some (bk hl 2 1 P P ((ints (hs.set p (tot (acc.take i)))).set p (.int .i64 (t0 + (sl - sf + 1)))))) (4, 0) = _ := (upd_other _ _ (by simp)).trans R0.out
      have q1 : upd ρ1 (5, 0) (some (bk hl 2 1 P P ((ints (hs.set p (tot (acc.take i)))).set p (.int .i64 (t0 + (sl - sf + 1)))))) (4, 1) = _ := (upd_other _ _ (by simp)).trans R1.out
      have q2 : upd ρ1 (5, 0) (some (bk hl 2 1 P P ((ints (hs.set p (tot (acc.take i)))).set p (.int .i64 (t0 + (sl - sf + 1)))))) (4, 2) = _ := (upd_other _ _ (by simp)).trans R2.out
      have q3 : upd ρ1 (5, 0) (some (bk hl 2 1 P P ((ints (hs.set p (tot (acc.take i)))).set p (.int .i64 (t0 + (sl - sf + 1)))))) (4, 3) = _ := (upd_other _ _ (by simp)).trans R3.out
      have q12 : upd ρ1 (5, 0) (some (bk hl 2 1 P P ((ints (hs.set p (tot (acc.take i)))).set p (.int .i64 (t0 + (sl - sf + 1)))))) (12, 0) = _ := (upd_other _ _ (by simp)).trans R12.out
      obtain ⟨ρ2, HR2⟩ : ∃ ρ2, Hid (upd ρ1 (5, 0) (some (bk hl 2 1 P P ((ints (hs.set p (tot (acc.take i)))).set p (.int .i64 (t0 + (sl - sf + 1)))))) = ρ2) := ⟨_, rfl⟩
      rw [HR2.out] at M2 q0 q1 q2 q3 q12
      clear x1 x2 x3 x4 y4 x5 x6 l0 l1 l2 l3 l5 n1 n2 n3 n4 n1' n2' n3' n4'
      have x1 := M2.out.cell q1 0 rfl
      have x2 : w2.cell? ⟨C, 5, none⟩ = some by2 := M2.out.cell q0 5 rfl
      have x3 := M2.out.cell q2 0 rfl
      have x5 := M2.out.cell q3 0 rfl
      have x6 := M2.out.cell q3 1 rfl
      have OW : Hid (w2.ownsRow B 35 3 by2 (bs ++ hsp p (acc.take i)).length (fl Hs.enc (bs ++ hsp p (acc.take i)))) := M2.out.mem.own _ _ q12
      have l0 := M2.out.lt q0
      have l1 := M2.out.lt q1
      have l2 := M2.out.lt q2
      have l3 := M2.out.lt q3
      have Q0 : Hid _ := q0
      have Q12 : Hid _ := q12
      have HSS : Hid (∀ (w' : World) (ρ' : Lb → Option Rw), Mm w0 w' B ρ' → ρ' (4, 0) = ρ2 (4, 0) → ρ' (4, 1) = ρ2 (4, 1) → ρ' (4, 2) = ρ2 (4, 2) → ρ' (4, 3) = ρ2 (4, 3) → w'.cell? ⟨cb, 0, none⟩ = some (.pointer (some ⟨C, 0, none⟩)) ∧ w'.cell? ⟨C, 5, none⟩ = some by2 ∧ w'.cell? ⟨pb, 0, none⟩ = some (.int .i64 p) ∧
        w'.cell? ⟨g6, 0, none⟩ = some (.int .i64 sf) ∧ w'.cell? ⟨g6, 1, none⟩ = some (.int .i64 sl)) := fun w' ρ' h e0 e1 e2 e3 => ⟨h.cell (e1.trans q1) 0 rfl, h.cell (e0.trans q0) 5 rfl, h.cell (e2.trans q2) 0 rfl, h.cell (e3.trans q3) 0 rfl, h.cell (e3.trans q3) 1 rfl⟩
      clear q0 q1 q2 q3 q12
      obtain ⟨d, HD⟩ : ∃ d, Hid (bs ++ hsp p (acc.take i) = d) := ⟨_, rfl⟩
      rw [HD.out] at OW Q12
      have LB : d.length ≤ 104096 := by
        have h1 := HBS.out
        have h2 : (hsp p (acc.take i)).length ≤ 4096 := by simp only [hsp, List.length_map, List.length_take]; omega
        rw [← HD.out, List.length_append]; omega
      have lB := M2.out.le
      refine wp_region_late 9 11 (fun w' => w'.cell? ⟨cb, 0, none⟩ = some (.pointer (some ⟨C, 0, none⟩)) ∧ w'.cell? ⟨C, 5, none⟩ = some by2 ∧ w'.cell? ⟨pb, 0, none⟩ = some (.int .i64 p) ∧
        w'.cell? ⟨g6, 0, none⟩ = some (.int .i64 sf) ∧ w'.cell? ⟨g6, 1, none⟩ = some (.int .i64 sl)) (by kernel_rfl) (by kernel_rfl) ⟨x1, x2, x3, x5, x6⟩ ?_
      simp only [List.take_succ_cons, List.take_zero, List.drop_succ_cons, List.drop_zero, Nat.reduceSub]
      repeat (refine wpHead_step (v := ?_) (by rfl) (by intro w hSw; go_simp; try with_reducible rfl) ?_; try simp only [Act.put, List.setIfInBounds_toArray, List.set_cons_zero, List.set_cons_succ])
      refine wpHead_nil ?_
      change wpList _ _ _ _ _ w2.drew
      go_wp2_with fail
      have M2a : Hid (Mm w0 (w2.alloc (.cells #[.int .i64 sf, .int .i64 sl, .int .i32 p] 35)).drew B ρ2) := (M2.out.alloc _).drew
      refine ⟨HSS.out _ _ M2a.out rfl rfl rfl rfl, ?_⟩
      have OW2 : Hid ((w2.alloc (.cells #[.int .i64 sf, .int .i64 sl, .int .i32 p] 35)).drew.ownsRow B 35 3 by2 d.length (fl Hs.enc d)) := (OW.out.alloc _).drew
      change wpList _ _ _ _ _ _
      go_wp2_with (at_builtin; refine wpList_append_lies _ rfl _ _ 36 rfl B 35 i0 _ 3 24 Yba.underlying36 hi0 hz0 hz1 hz2 rfl (by decide) by2 d.length (fl Hs.enc d) rfl OW2.out ⟨w2.heap.size, 0, none⟩ 1 1 [.int .i64 sf, .int .i64 sl, .int .i32 p] rfl rfl ?qn ?q1 (by decide) ?q63 ?qb ?qB (w2.heap.size + 1) ?qH ?_)
      case qn => exact World.news_of_block (cs := #[.int .i64 sf, .int .i64 sl, .int .i32 p]) (t := 35) (fr := (0, 0)) (heap_alloc_new w2 _)
      case q1 => simp [Value.oneCell']
      case q63 => unfold maxLen; omega
      case qb => omega
      case qB => simp; omega
      case qH => simp
      intro gg cap2 w3 hown hgrow hat hlt
      have M3 : Hid (Mm w0 w3 B (upd ρ2 (12, 0) (some ⟨.slice (some ⟨gg, 0, none⟩) (d.length + 1) cap2, 35, 3, d.length + 1, fl Hs.enc d ++ [.int .i64 sf, .int .i64 sl, .int .i32 p]⟩))) := M2a.out.put Q12.out hgrow hown (fun g hg => by
        cases hg
        rcases hat with h | h
        · exact .inl h
        · right; rw [h]; simp)
      clear hown hgrow hat hlt
      go_wp2_with fail
      refine ⟨HSS.out _ _ M3.out (upd_other _ _ (by simp)) (upd_other _ _ (by simp)) (upd_other _ _ (by simp)) (upd_other _ _ (by simp)), ?_⟩
      change wpList _ _ _ _ _ _
      have q0 : upd ρ2 (12, 0) (some ⟨.slice (some ⟨gg, 0, none⟩) (d.length + 1) cap2, 35, 3, d.length + 1, fl Hs.enc d ++ [.int .i64 sf, .int .i64 sl, .int .i32 p]⟩) (4, 0) = _ := (upd_other _ _ (by simp)).trans Q0.out
      have z1 : w3.cell? ⟨C, 5, none⟩ = some by2 := M3.out.cell q0 5 rfl
      have z2 := M3.out.froz q0 5
      have z3 := M3.out.lt q0
      have Q0' : Hid _ := q0
      clear q0
      go_wp2_with fail
      refine NoPanic.normal ?_
      go_wp2_with fail
      go_roundw
      case rel =>
        refine ⟨i + 1, .slice (some ⟨gg, 0, none⟩) (d.length + 1) cap2, by go_num, by omega, ?_⟩
        show Mm _ _ _ _
        have h := (M3.out.store Q0'.out 5 (.slice (some ⟨gg, 0, none⟩) (d.length + 1) cap2)).drop (4, 3)
        have hd2 : bs ++ hsp p (acc.take (i + 1)) = d ++ [⟨sf, sl, p⟩] := by
          rw [hsp_take p acc i hin2, HSF.out, HSL2.out, ← List.append_assoc, HD.out]
        rw [← HR2.out, ← HR1.out] at h
        rw [st2_step ρ C hl P A hs p bs acc i by2 _ _ _ _ _ HT2.out (by rw [hd2]; simp) (by rw [hd2, fl_append, fl_one]; rfl)] at h
        exact h
      case measure => simp [RowKit.intOf]; omega
    · go_wp2_with fail
      obtain rfl : i = n := by omega
      have hw := HW.out
      have he := HE.out
      rw [HN.out] at he
      exact he _ _ _ _ _ _ _ _ _ _ _ _ _ _ _ _ _ _ _ _ _ _ _ _ _ _ _ _ _ _ _ _ _ _ by2 _ hw

end Go.Proofs.Ybulkebla

