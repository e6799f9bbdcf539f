import Derived.Test.YbulkeblaAL3
import Derived.Test.YbulkeblaAMo
/-! index's loop over the peer's sections. -/
namespace Go.Proofs.Ybulkebla
open Go.RowKit Go.Lib
set_option linter.unusedVariables false
set_option linter.unusedSectionVars false
variable [Inhabited Rn] [Inhabited Hs] [Inhabited Sc]

/-- c's number of items is that of the spans of its runs. -/
def Tk (mrows : Nat → List Rn) (c : Sc) : Prop := ∃ acc, MergeInv (rsp (mrows c.id)) acc ∧ c.items = tot acc
/-- What has been appended: the sections of pr that are no longer to come, each once. -/
structure Secs (pr lf : Nat → Bool) (mrows : Nat → List Rn) (l : List Sc) : Prop where
  nd : (l.map Sc.id).Nodup
  mem : ∀ j, j ≤ 1000 → (j ∈ l.map Sc.id ↔ pr j = true ∧ lf j = false)
  low : ∀ c ∈ l, c.id ≤ 1000
  it : ∀ c ∈ l, Tk mrows c
theorem secs_start (pr : Nat → Bool) (mrows : Nat → List Rn) : Secs pr pr mrows [] := ⟨List.nodup_nil, fun j _ => by cases pr j <;> simp, fun c h => (by cases h), fun c h => (by cases h)⟩
theorem secs_step {pr lf : Nat → Bool} {mrows : Nat → List Rn} {l : List Sc} (h : Secs pr lf mrows l) (k : Nat) (t : Int) (hk : k ≤ 1000) (h1 : pr k = true) (h2 : lf k = true) (ht : Tk mrows ⟨k, t⟩) : Secs pr (fun z => lf z && !decide (z = k)) mrows (l ++ [⟨k, t⟩]) := by
  refine ⟨?_, fun j hj => ?_, fun c hc => ?_, fun c hc => ?_⟩
  · rw [List.map_append, List.nodup_append]
    refine ⟨h.nd, by simp, ?_⟩
    intro a ha b hb e
    simp only [List.map_cons, List.map_nil, List.mem_singleton] at hb
    subst hb e
    have := (h.mem _ hk).1 ha
    rw [h2] at this; cases this.2
  · rw [List.map_append, List.mem_append, h.mem j hj]
    by_cases e : j = k
    · subst e; simp [h1]
    · simp [e]
  · rcases List.mem_append.1 hc with hc | hc
    · exact h.low c hc
    · simp at hc; subst hc; exact hk
  · rcases List.mem_append.1 hc with hc | hc
    · exact h.it c hc
    · simp at hc; subst hc; exact ht

def st4 (ρ : Lb → Option Rw) (qb P : Nat) (vs : Nat → Value) (p : Nat) (vsp : Value) (l : List Sc) : Lb → Option Rw :=
  upd (upd (upd (upd ρ (4, 5) none) (20, 0) none) (7, p) (some ⟨vsp, 56, 2, l.length, fl Sc.enc l⟩)) (6, 0) (some (bk qb 54 1 P P (vals P (fun j => if j = p then vsp else vs j))))
theorem st4_step (ρ : Lb → Option Rw) (qb P : Nat) (vs : Nat → Value) (p : Nat) (vsp v' : Value) (l : List Sc) (c : Sc) (x y z : Option Rw) (hp : p < P) :
    upd (upd (upd (upd (upd (upd (upd (st4 ρ qb P vs p vsp l) (4, 5) x) (20, 0) y) (4, 5) z) (7, p) (some ⟨v', 56, 2, l.length + 1, fl Sc.enc l ++ Sc.enc c⟩)) (6, 0) (some (bk qb 54 1 P P ((vals P (fun j => if j = p then vsp else vs j)).set p v')))) (4, 5) none) (20, 0) none = st4 ρ qb P vs p v' (l ++ [c]) := by
  rw [vals_set P _ p v' hp]
  have e : (fun j => if j = p then v' else if j = p then vsp else vs j) = fun j => if j = p then v' else vs j := by
    funext j; by_cases h : j = p <;> simp [h]
  rw [e]
  funext l2
  obtain ⟨a, b⟩ := l2
  simp only [upd, st4, Prod.mk.injEq]
  by_cases h1 : a = 20 ∧ b = 0
  · obtain ⟨rfl, rfl⟩ := h1; simp
  by_cases h2 : a = 4 ∧ b = 5
  · obtain ⟨rfl, rfl⟩ := h2; simp
  by_cases h3 : a = 6 ∧ b = 0
  · obtain ⟨rfl, rfl⟩ := h3; simp
  by_cases h4 : a = 7 ∧ b = p
  · obtain ⟨rfl, rfl⟩ := h4; simp [fl_append, fl_one]
  simp [h1, h2, h3, h4]
theorem st4_other {ρ : Lb → Option Rw} {qb P : Nat} {vs : Nat → Value} {p : Nat} {vsp : Value} {l : List Sc} {x : Lb} (h1 : x ≠ (4, 5)) (h2 : x ≠ (20, 0)) (h3 : x ≠ (7, p)) (h4 : x ≠ (6, 0)) : st4 ρ qb P vs p vsp l x = ρ x := by
  simp [st4, upd, h1, h2, h3, h4]
theorem info56' : (Yba.prog.info? 56).map (fun i => (i.zero, i.size, i.bytes)) = some (some (.agg #[.int .i64 0, .int .i64 0]), 2, 16) := by kernel_rfl

set_option maxHeartbeats 4000000 in
set_option maxRecDepth 100000 in
theorem loop4 {c0 c2 c4 c5 c6 c7 c8 c9 c10 c11 c12 c13 c14 c15 c16 c17 c18 c19 c20 c21 c22 c23 c24 c25 c26 c27 c28 c29 c30 c31 c32 c33 c34 c35 c36 c37 c38 c39 c40 c41 c42 c43 c44 c45 c46 c47 c48 c49 c50 c51 c52 c53 c54 c55 c56 c57 c58 c59 c60 c61 c62 c63 c64 c65 c66 c67 c68 c69 c70 c71 c72 c73 c74 c75 c76 c77 c78 c79 c80 c81 c82 c83 c84 c85 c86 c87 c88 c89 c90 c91 c92 c93 c94 c95 c96 c97 c98 c99 c100 c101 c102 c103 c104 c105 c106 c107 c108 c109 c110 c111 c112 c113 c114 c115 c116 c117 c118 c119 c120 c121 c122 c123 c124 c125 c126 c127 c128 c129 c130 c131 c132 c133 c134 c135 c136 c137 c138 c139 c140 c142 c143 c144 c145 c146 c147 c148 c149 c150 c151 c152 c153 c154 c155 c156 c157 c158 c159 c160 c161 c162 c163 c164 c165 c166 c167 c168 c169 c170 c171 c172 c173 c174 c175 c176 c177 c178 c179 c180 c181 c182 c183 c184 c185 c186 c187 c188 c189 c190 c191 c192 c193 c194 c195 c196 c197 c198 c199 c200 c201 c202 c203 c204 c205 c206 c207 c208 c209 c210 c211 c212 c213 c214 c215 c216 c217 c218 c219 c220 c221 c222 c223 c224 c225 c226 c227 c228 c229 c230 c231 c232 c233 c234 c235 c236 c237 c238 c239 c240 c241 c242 c243 c244 c245 c246 c247 c248 c249 c250 c251 c252 c253 c254 c255 c256 c257 c258 c259 c260 c261 c262 c263 c264 c265 c266 c267 c268 c269 c270 c271 c272 c273 c274 c275 c276 c277 c278 c279 : Value} (w0 w : World) (B : Nat) (ρ : Lb → Option Rw) (C cb pb qb mb rb S P p n cnt : Nat) (A : List Value) (vs vm : Nat → Value) (pr : Nat → Bool) (mrows : Nat → List Rn) (D : DataW Value)
    (hM : Mm w0 w B ρ) (hRg : Rg w mb rb n D vm pr pr cnt) (hcnt : cnt ≤ 100000) (hmb : B ≤ mb) (hrb : B ≤ rb) (hS : S ≤ 6) (hP : P ≤ 6) (hp : p < P) (hA7 : A[7]? = some (.slice (some ⟨qb, 0, none⟩) P P)) (hpr : ∀ k, pr k = true → k < S)
    (hvs : vs p = .slice none 0 0) (hrow : ∀ k, (mrows k).length ≤ 4096 ∧ Fine S (mrows k) ∧ Asc1 (mrows k))
    (h0 : ρ (4, 0) = some (bk C 43 10 1 1 A)) (h1 : ρ (4, 1) = some (bk cb 31 1 1 1 [.pointer (some ⟨C, 0, none⟩)])) (h2 : ρ (4, 2) = some (bk pb 3 1 1 1 [.int .i64 p])) (h6 : ρ (6, 0) = some (bk qb 54 1 P P (vals P vs))) (h7 : ρ (7, p) = some ⟨.slice none 0 0, 56, 2, 0, []⟩)
    (h11 : ∀ k, k < S → ρ (11, k) = some ⟨vm k, 29, 4, (mrows k).length, fl Rn.enc (mrows k)⟩) (Q : Exit → Act → World → Prop)
    (hexit : ∀ (u10 u11 u12 u14 u142 u143 u144 u145 u146 u147 u148 u149 u150 u151 u152 u153 u154 u155 u156 u157 u158 u159 u160 u161 u162 u163 u164 u165 u166 u167 u168 u169 u170 u171 u172 u173 u174 u175 u176 u177 u178 u179 u180 u181 u182 : Value) (l : List Sc) (vsp : Value) (w' : World), Mm w0 w' B (st4 ρ qb P vs p vsp l) → Secs pr (fun _ => false) mrows l → (l = [] → vsp = .slice none 0 0) → Q .normal ⟨#[c0, .pointer (some ⟨cb, 0, none⟩), c2, .pointer (some ⟨pb, 0, none⟩), c4, c5, c6, c7, c8, c9, u10, u11, u12, c13, u14, c15, c16, c17, c18, c19, c20, c21, c22, c23, c24, c25, c26, c27, c28, c29, c30, c31, c32, c33, c34, c35, c36, c37, c38, c39, c40, c41, c42, c43, c44, c45, c46, c47, c48, c49, c50, c51, c52, c53, c54, c55, c56, c57, c58, c59, c60, c61, c62, c63, c64, c65, c66, c67, c68, c69, c70, c71, c72, c73, c74, c75, c76, c77, c78, c79, c80, c81, c82, c83, c84, c85, c86, c87, c88, c89, c90, c91, c92, c93, c94, c95, c96, c97, c98, c99, c100, c101, c102, c103, c104, c105, c106, c107, c108, c109, c110, c111, c112, c113, c114, c115, c116, c117, c118, c119, c120, c121, c122, c123, c124, c125, c126, c127, c128, c129, c130, c131, c132, c133, c134, c135, c136, c137, c138, c139, c140, .pointer (some ⟨rb, 0, none⟩), u142, u143, u144, u145, u146, u147, u148, u149, u150, u151, u152, u153, u154, u155, u156, u157, u158, u159, u160, u161, u162, u163, u164, u165, u166, u167, u168, u169, u170, u171, u172, u173, u174, u175, u176, u177, u178, u179, u180, u181, u182, c183, c184, c185, c186, c187, c188, c189, c190, c191, c192, c193, c194, c195, c196, c197, c198, c199, c200, c201, c202, c203, c204, c205, c206, c207, c208, c209, c210, c211, c212, c213, c214, c215, c216, c217, c218, c219, c220, c221, c222, c223, c224, c225, c226, c227, c228, c229, c230, c231, c232, c233, c234, c235, c236, c237, c238, c239, c240, c241, c242, c243, c244, c245, c246, c247, c248, c249, c250, c251, c252, c253, c254, c255, c256, c257, c258, c259, c260, c261, c262, c263, c264, c265, c266, c267, c268, c269, c270, c271, c272, c273, c274, c275, c276, c277, c278, c279], []⟩ w') :
    Code.wp Yba.prog (pick [true, true, true, true, true, true, false, true, false, false, true, true, false, false, true, true, true, true, true, false, true] (Yba.f7.body.getD .skip)) Q ⟨#[c0, .pointer (some ⟨cb, 0, none⟩), c2, .pointer (some ⟨pb, 0, none⟩), c4, c5, c6, c7, c8, c9, c10, c11, c12, c13, c14, c15, c16, c17, c18, c19, c20, c21, c22, c23, c24, c25, c26, c27, c28, c29, c30, c31, c32, c33, c34, c35, c36, c37, c38, c39, c40, c41, c42, c43, c44, c45, c46, c47, c48, c49, c50, c51, c52, c53, c54, c55, c56, c57, c58, c59, c60, c61, c62, c63, c64, c65, c66, c67, c68, c69, c70, c71, c72, c73, c74, c75, c76, c77, c78, c79, c80, c81, c82, c83, c84, c85, c86, c87, c88, c89, c90, c91, c92, c93, c94, c95, c96, c97, c98, c99, c100, c101, c102, c103, c104, c105, c106, c107, c108, c109, c110, c111, c112, c113, c114, c115, c116, c117, c118, c119, c120, c121, c122, c123, c124, c125, c126, c127, c128, c129, c130, c131, c132, c133, c134, c135, c136, c137, c138, c139, c140, .pointer (some ⟨rb, 0, none⟩), c142, c143, c144, c145, c146, c147, c148, c149, c150, c151, c152, c153, c154, c155, c156, c157, c158, c159, c160, c161, c162, c163, c164, c165, c166, c167, c168, c169, c170, c171, c172, c173, c174, c175, c176, c177, c178, c179, c180, c181, c182, c183, c184, c185, c186, c187, c188, c189, c190, c191, c192, c193, c194, c195, c196, c197, c198, c199, c200, c201, c202, c203, c204, c205, c206, c207, c208, c209, c210, c211, c212, c213, c214, c215, c216, c217, c218, c219, c220, c221, c222, c223, c224, c225, c226, c227, c228, c229, c230, c231, c232, c233, c234, c235, c236, c237, c238, c239, c240, c241, c242, c243, c244, c245, c246, c247, c248, c249, c250, c251, c252, c253, c254, c255, c256, c257, c258, c259, c260, c261, c262, c263, c264, c265, c266, c267, c268, c269, c270, c271, c272, c273, c274, c275, c276, c277, c278, c279], []⟩ w := by
  have HM : Hid (Mm w0 w B ρ) := hM
  have HG : Hid (Rg w mb rb n D vm pr pr cnt) := hRg
  have H0 : Hid (ρ (4, 0) = some (bk C 43 10 1 1 A)) := h0
  have H1 : Hid (ρ (4, 1) = some (bk cb 31 1 1 1 [.pointer (some ⟨C, 0, none⟩)])) := h1
  have H2 : Hid (ρ (4, 2) = some (bk pb 3 1 1 1 [.int .i64 p])) := h2
  have H6 : Hid (ρ (6, 0) = some (bk qb 54 1 P P (vals P vs))) := h6
  have H7 : Hid (ρ (7, p) = some ⟨.slice none 0 0, 56, 2, 0, []⟩) := h7
  have H11 : Hid (∀ k, k < S → ρ (11, k) = some ⟨vm k, 29, 4, (mrows k).length, fl Rn.enc (mrows k)⟩) := h11
  have HA : Hid (A[7]? = some (.slice (some ⟨qb, 0, none⟩) P P)) := hA7
  have HPR : Hid (∀ k, pr k = true → k < S) := hpr
  have HVS : Hid (vs p = .slice none 0 0) := hvs
  have HMB : Hid (B ≤ mb) := hmb
  have HRB : Hid (B ≤ rb) := hrb
  have HROW : Hid (∀ k, (mrows k).length ≤ 4096 ∧ Fine S (mrows k) ∧ Asc1 (mrows k)) := hrow
  have HE : Hid (∀ (u10 u11 u12 u14 u142 u143 u144 u145 u146 u147 u148 u149 u150 u151 u152 u153 u154 u155 u156 u157 u158 u159 u160 u161 u162 u163 u164 u165 u166 u167 u168 u169 u170 u171 u172 u173 u174 u175 u176 u177 u178 u179 u180 u181 u182 : Value) (l : List Sc) (vsp : Value) (w' : World), Mm w0 w' B (st4 ρ qb P vs p vsp l) → Secs pr (fun _ => false) mrows l → (l = [] → vsp = .slice none 0 0) → Q .normal ⟨#[c0, .pointer (some ⟨cb, 0, none⟩), c2, .pointer (some ⟨pb, 0, none⟩), c4, c5, c6, c7, c8, c9, u10, u11, u12, c13, u14, c15, c16, c17, c18, c19, c20, c21, c22, c23, c24, c25, c26, c27, c28, c29, c30, c31, c32, c33, c34, c35, c36, c37, c38, c39, c40, c41, c42, c43, c44, c45, c46, c47, c48, c49, c50, c51, c52, c53, c54, c55, c56, c57, c58, c59, c60, c61, c62, c63, c64, c65, c66, c67, c68, c69, c70, c71, c72, c73, c74, c75, c76, c77, c78, c79, c80, c81, c82, c83, c84, c85, c86, c87, c88, c89, c90, c91, c92, c93, c94, c95, c96, c97, c98, c99, c100, c101, c102, c103, c104, c105, c106, c107, c108, c109, c110, c111, c112, c113, c114, c115, c116, c117, c118, c119, c120, c121, c122, c123, c124, c125, c126, c127, c128, c129, c130, c131, c132, c133, c134, c135, c136, c137, c138, c139, c140, .pointer (some ⟨rb, 0, none⟩), u142, u143, u144, u145, u146, u147, u148, u149, u150, u151, u152, u153, u154, u155, u156, u157, u158, u159, u160, u161, u162, u163, u164, u165, u166, u167, u168, u169, u170, u171, u172, u173, u174, u175, u176, u177, u178, u179, u180, u181, u182, c183, c184, c185, c186, c187, c188, c189, c190, c191, c192, c193, c194, c195, c196, c197, c198, c199, c200, c201, c202, c203, c204, c205, c206, c207, c208, c209, c210, c211, c212, c213, c214, c215, c216, c217, c218, c219, c220, c221, c222, c223, c224, c225, c226, c227, c228, c229, c230, c231, c232, c233, c234, c235, c236, c237, c238, c239, c240, c241, c242, c243, c244, c245, c246, c247, c248, c249, c250, c251, c252, c253, c254, c255, c256, c257, c258, c259, c260, c261, c262, c263, c264, c265, c266, c267, c268, c269, c270, c271, c272, c273, c274, c275, c276, c277, c278, c279], []⟩ w') := hexit
  clear hM hRg h0 h1 h2 h6 h7 h11 hA7 hpr hvs hexit hmb hrb hrow
  obtain ⟨i0, hi0, hz0, hz1, hz2⟩ := info_parts info56'
  conv => arg 2; whnf
  go_wp2_with fail
  go_loopw [142] (fun _ wr => ∃ (l : List Sc) (vsp : Value) (lf : Nat → Bool) (c1 : Nat), l.length + c1 ≤ 100000 ∧ Hid (Mm w0 wr B (st4 ρ qb P vs p vsp l)) ∧ Hid (Rg wr mb rb n D vm pr lf c1) ∧ Hid (Secs pr lf mrows l) ∧ Hid (l = [] → vsp = .slice none 0 0)) (fun _ wr => wr.rangeLeft mb rb)
  case atStart => 
    refine ⟨[], .slice none 0 0, pr, cnt, by simpa using hcnt, ?_, HG.out, secs_start pr mrows, fun _ => rfl⟩
    show Mm _ _ _ _
    have h := (HM.out.drop (4, 5)).drop (20, 0)
    have e : upd (upd ρ (4, 5) none) (20, 0) none = st4 ρ qb P vs p (.slice none 0 0) [] := by
      unfold st4
      have e1 : (fun j => if j = p then Value.slice none 0 0 else vs j) = vs := by
        funext j; by_cases h : j = p
        · subst h; simp [HVS.out]
        · simp [h]
      rw [e1, upd_self _ (7, p) _ (by rw [upd_other _ _ (by simp), upd_other _ _ (by simp)]; exact H7.out), upd_self _ (6, 0) _ (by rw [upd_other _ _ (by simp), upd_other _ _ (by simp)]; exact H6.out)]
    rw [e] at h
    exact h
  case round =>
    obtain ⟨l, vsp, lf, c1, hlc, HW, HR, HS2, HV⟩ := hrel
    go_wp2_with (at_next; refine wpList_next_mp rfl _ rfl rfl HR.out ?_ ?_)
    · intro hdone
      have HDn : Hid _ := hdone
      clear hdone
      go_wp2_with fail
      refine HE.out _ _ _ _ _ _ _ _ _ _ _ _ _ _ _ _ _ _ _ _ _ _ _ _ _ _ _ _ _ _ _ _ _ _ _ _ _ _ _ _ _ _ _ _ _ l vsp _ HW.out ⟨HS2.out.nd, fun j hj => ?_, HS2.out.low, HS2.out.it⟩ HV.out
      rw [HS2.out.mem j hj, HDn.out j hj]
    · intro k w1 c2 hk1 hprk hlfk hrg1 hlt hgr hsz hen
      have M1 : Hid (Mm w0 w1 B (st4 ρ qb P vs p vsp l)) := HW.out.beside hgr HRB.out (fun x r hx => by obtain ⟨left, hh, _⟩ := HR.out; exact HW.out.notIter hh hx)
      have HRG1 : Hid (Rg w1 mb rb n D vm pr (fun z => lf z && !decide (z = k)) c2) := hrg1
      have HPK : Hid _ := hprk
      have HLK : Hid _ := hlfk
      have hkS := HPR.out k hprk
      clear hrg1 hgr hprk hlfk hsz
      go_wp2_with fail
      obtain ⟨hb, HHB⟩ : ∃ hb, Hid (w1.heap.size = hb) := ⟨_, rfl⟩
      rw [HHB.out]
      have M2 : Hid (Mm w0 (w1.alloc (.cells #[.int .i64 k, .int .i64 0] 56)) B (upd (st4 ρ qb P vs p vsp l) (4, 5) (some (bk hb 56 2 1 1 [.int .i64 k, .int .i64 0])))) := M1.out.box (4, 5) #[.int .i64 k, .int .i64 0] 56 2 1 (by decide) rfl HHB.out
      have G2 : Hid (Rg (w1.alloc (.cells #[.int .i64 k, .int .i64 0] 56)) mb rb n D vm pr (fun z => lf z && !decide (z = k)) c2) := HRG1.out.kept0 (World.grownBy_alloc _ _ _)
      generalize w1.alloc (.cells #[.int .i64 k, .int .i64 0] 56) = w2 at M2 G2 ⊢
      have o11 : upd (st4 ρ qb P vs p vsp l) (4, 5) (some (bk hb 56 2 1 1 [.int .i64 k, .int .i64 0])) (11, k) = some ⟨vm k, 29, 4, (mrows k).length, fl Rn.enc (mrows k)⟩ := by
        rw [upd_other _ _ (by simp), st4_other (by simp) (by simp) (by simp) (by simp)]; exact H11.out k hkS
      have hrow := HROW.out k
      refine (mergeOwn B S (vm k) (mrows k) w2 hrow.1 (M2.out.mem.own _ _ o11) hrow.2.1 hrow.2.2).mono ?_
      clear o11 hrow
      rintro e w3 ⟨v3, acc, rfl, hw3, hbel, hmi, hsm, hnil⟩
      obtain ⟨a3, c3, rfl⟩ := own_form hw3
      have M3 : Hid (Mm w0 w3 B (upd (upd (st4 ρ qb P vs p vsp l) (4, 5) (some (bk hb 56 2 1 1 [.int .i64 k, .int .i64 0]))) (20, 0) (some ⟨.slice a3 acc.length c3, 33, 2, acc.length, spc acc⟩))) := M2.out.made (20, 0) hbel ⟨.slice a3 acc.length c3, 33, 2, acc.length, spc acc⟩ hw3
      have G3 : Hid (Rg w3 mb rb n D vm pr (fun z => lf z && !decide (z = k)) c2) := G2.out.kept0 ⟨hbel.os, hbel.tape, hbel.output, hbel.size, fun i hi _ => hbel.block i hi⟩
      have HMI : Hid _ := hmi
      have HSM : Hid _ := hsm
      clear hw3 hbel hmi hsm hnil
      go_upto_block 8 with fail
      have o5 : upd (upd (st4 ρ qb P vs p vsp l) (4, 5) (some (bk hb 56 2 1 1 [.int .i64 k, .int .i64 0]))) (20, 0) (some ⟨.slice a3 acc.length c3, 33, 2, acc.length, spc acc⟩) (4, 5) = (some (bk hb 56 2 1 1 [.int .i64 k, .int .i64 0])) := by rw [upd_other _ _ (by simp), upd_same]
      refine loop5 w0 w3 B _ hb k (.slice a3 acc.length c3) acc M3.out HSM.out o5 (upd_same _ _ _) _ ?_
      intro u14' u152' u153' u154' u155' u156' u157' u158' u159' u160' u161' u162' u163' u164' u165' u166' w4 hm4 hg4
      have M4 : Hid (Mm w0 w4 B (upd (upd (upd (st4 ρ qb P vs p vsp l) (4, 5) (some (bk hb 56 2 1 1 [.int .i64 k, .int .i64 0]))) (20, 0) (some ⟨.slice a3 acc.length c3, 33, 2, acc.length, spc acc⟩)) (4, 5) (some (bk hb 56 2 1 1 [.int .i64 k, .int .i64 (tot acc)])))) := hm4
      have G4 : Hid (Rg w4 mb rb n D vm pr (fun z => lf z && !decide (z = k)) c2) := G3.out.kept hg4 (fun e => by obtain ⟨left, _, h2, _⟩ := G3.out; exact M3.out.notMap h2.1 o5 e.symm) (fun e => by obtain ⟨left, h2, _⟩ := G3.out; exact M3.out.notIter h2 o5 e.symm)
      clear hm4 hg4 o5
      go_wp2_with fail
      obtain ⟨ti, HTI⟩ : ∃ ti, Hid (tot acc = ti) := ⟨_, rfl⟩
      rw [HTI.out] at M4
      obtain ⟨ρ4, HR4⟩ : ∃ ρ4, Hid (upd (upd (upd (st4 ρ qb P vs p vsp l) (4, 5) (some (bk hb 56 2 1 1 [.int .i64 k, .int .i64 0]))) (20, 0) (some ⟨.slice a3 acc.length c3, 33, 2, acc.length, spc acc⟩)) (4, 5) (some (bk hb 56 2 1 1 [.int .i64 k, .int .i64 ti])) = ρ4) := ⟨_, rfl⟩
      rw [HR4.out] at M4
      have q0 : ρ4 (4, 0) = some (bk C 43 10 1 1 A) := by rw [← HR4.out, upd_other _ _ (by simp), upd_other _ _ (by simp), upd_other _ _ (by simp), st4_other (by simp) (by simp) (by simp) (by simp)]; exact H0.out
      have q1 : ρ4 (4, 1) = some (bk cb 31 1 1 1 [.pointer (some ⟨C, 0, none⟩)]) := by rw [← HR4.out, upd_other _ _ (by simp), upd_other _ _ (by simp), upd_other _ _ (by simp), st4_other (by simp) (by simp) (by simp) (by simp)]; exact H1.out
      have q2 : ρ4 (4, 2) = some (bk pb 3 1 1 1 [.int .i64 p]) := by rw [← HR4.out, upd_other _ _ (by simp), upd_other _ _ (by simp), upd_other _ _ (by simp), st4_other (by simp) (by simp) (by simp) (by simp)]; exact H2.out
      have q5 : ρ4 (4, 5) = some (bk hb 56 2 1 1 [.int .i64 k, .int .i64 ti]) := by rw [← HR4.out, upd_same]
      have q6 : ρ4 (6, 0) = some (bk qb 54 1 P P (vals P (fun j => if j = p then vsp else vs j))) := by rw [← HR4.out]; simp [upd, st4]
      have q7 : ρ4 (7, p) = some ⟨vsp, 56, 2, l.length, fl Sc.enc l⟩ := by rw [← HR4.out]; simp [upd, st4]
      have va : (vals P (fun j => if j = p then vsp else vs j))[p]? = some vsp := by rw [vals_at P _ p hp]; simp
      have HSS : Hid (∀ (w' : World) (ρ' : Lb → Option Rw), Mm w0 w' B ρ' → ρ' (4, 0) = ρ4 (4, 0) → ρ' (4, 1) = ρ4 (4, 1) → ρ' (4, 2) = ρ4 (4, 2) → ρ' (4, 5) = ρ4 (4, 5) → ρ' (6, 0) = ρ4 (6, 0) → w'.cell? ⟨cb, 0, none⟩ = some (.pointer (some ⟨C, 0, none⟩)) ∧ w'.cell? ⟨C, 7, none⟩ = some (.slice (some ⟨qb, 0, none⟩) P P) ∧ w'.cell? ⟨pb, 0, none⟩ = some (.int .i64 p) ∧ w'.cell? ⟨qb, p, none⟩ = some vsp ∧ w'.cell? ⟨hb, 0, none⟩ = some (.int .i64 k) ∧ w'.cell? ⟨hb, 1, none⟩ = some (.int .i64 ti)) := fun w' ρ' h e0 e1 e2 e5 e6 =>
        ⟨h.cell (e1.trans q1) 0 rfl, h.cell (e0.trans q0) 7 HA.out, h.cell (e2.trans q2) 0 rfl, h.cell (e6.trans q6) p va, h.cell (e5.trans q5) 0 rfl, h.cell (e5.trans q5) 1 rfl⟩
      have OW : Hid (w4.ownsRow B 56 2 vsp l.length (fl Sc.enc l)) := M4.out.mem.own _ _ q7
      have Q6 : Hid _ := q6
      have Q7 : Hid _ := q7
      have VA : Hid _ := va
      clear q0 q1 q2 q5 q6 q7 va
      have lB := M4.out.le
      have hp1 : (0 : Int) ≤ (p : Int) := Int.natCast_nonneg _
      have hp2 : (p : Int) < (P : Int) := by omega
      refine wp_region_late 13 15 (fun w' => w'.cell? ⟨cb, 0, none⟩ = some (.pointer (some ⟨C, 0, none⟩)) ∧ w'.cell? ⟨C, 7, none⟩ = some (.slice (some ⟨qb, 0, none⟩) P P) ∧ w'.cell? ⟨pb, 0, none⟩ = some (.int .i64 p) ∧ w'.cell? ⟨qb, p, none⟩ = some vsp ∧ w'.cell? ⟨hb, 0, none⟩ = some (.int .i64 k) ∧ w'.cell? ⟨hb, 1, none⟩ = some (.int .i64 ti)) (by kernel_rfl) (by kernel_rfl) (HSS.out w4.drew ρ4 M4.out.drew rfl rfl rfl rfl rfl) ?_
      simp only [List.take_succ_cons, List.take_zero, List.drop_succ_cons, List.drop_zero, Nat.reduceSub]
      repeat (refine wpHead_step (v := ?_) (by rfl) (by intro w hSw; go_simp; try with_reducible rfl) ?_; try simp only [Act.put, List.setIfInBounds_toArray, List.set_cons_zero, List.set_cons_succ])
      refine wpHead_nil ?_
      change wpList _ _ _ _ _ w4.drew
      go_wp2_with fail
      have M4a : Hid (Mm w0 (w4.alloc (.cells #[.int .i64 k, .int .i64 ti] 56)).drew B ρ4) := (M4.out.alloc _).drew
      have G4a : Hid (Rg (w4.alloc (.cells #[.int .i64 k, .int .i64 ti] 56)).drew mb rb n D vm pr (fun z => lf z && !decide (z = k)) c2) := (G4.out.kept0 (World.grownBy_alloc _ _ _)).kept0 (grown_drew _ _)
      refine ⟨HSS.out _ _ M4a.out rfl rfl rfl rfl rfl, ?_⟩
      have OW2 : Hid ((w4.alloc (.cells #[.int .i64 k, .int .i64 ti] 56)).drew.ownsRow B 56 2 vsp l.length (fl Sc.enc l)) := (OW.out.alloc _).drew
      change wpList _ _ _ _ _ _
      go_wp2_with (at_builtin; refine wpList_append_lies _ rfl _ _ 54 rfl B 56 i0 _ 2 16 Yba.underlying54 hi0 hz0 hz1 hz2 rfl (by decide) vsp l.length (fl Sc.enc l) rfl OW2.out ⟨w4.heap.size, 0, none⟩ 1 1 [.int .i64 k, .int .i64 ti] rfl rfl ?qn ?q1 (by decide) ?q63 ?qb ?qB (w4.heap.size + 1) ?qH ?_)
      case qn => exact World.news_of_block (cs := #[.int .i64 k, .int .i64 ti]) (t := 56) (fr := (0, 0)) (heap_alloc_new w4 _)
      case q1 => simp [Value.oneCell']
      case q63 => unfold maxLen; omega
      case qb => omega
      case qB => simp; omega
      case qH => simp
      intro gg cap2 w5 hown hgrow hat hlt2
      have M5 : Hid (Mm w0 w5 B (upd ρ4 (7, p) (some ⟨.slice (some ⟨gg, 0, none⟩) (l.length + 1) cap2, 56, 2, l.length + 1, fl Sc.enc l ++ ([.int .i64 k, .int .i64 ti] : List Value)⟩))) := M4a.out.put Q7.out hgrow hown (fun g hg => by
        cases hg
        rcases hat with h | h
        · exact .inl h
        · right; rw [h]; simp)
      have G5 : Hid (Rg w5 mb rb n D vm pr (fun z => lf z && !decide (z = k)) c2) := G4a.out.kept hgrow (fun e => by obtain ⟨left, _, h2, _⟩ := G4a.out; exact M4a.out.notMap h2.1 Q7.out e.symm) (fun e => by obtain ⟨left, h2, _⟩ := G4a.out; exact M4a.out.notIter h2 Q7.out e.symm)
      clear hown hgrow hat hlt2
      go_wp2_with fail
      refine ⟨HSS.out _ _ M5.out (upd_other _ _ (by simp)) (upd_other _ _ (by simp)) (upd_other _ _ (by simp)) (upd_other _ _ (by simp)) (upd_other _ _ (by simp)), ?_⟩
      change wpList _ _ _ _ _ _
      have z6 : upd ρ4 (7, p) (some ⟨.slice (some ⟨gg, 0, none⟩) (l.length + 1) cap2, 56, 2, l.length + 1, fl Sc.enc l ++ ([.int .i64 k, .int .i64 ti] : List Value)⟩) (6, 0) = _ := (upd_other _ _ (by simp)).trans Q6.out
      have z1 := M5.out.cell z6 p VA.out
      have z2 := M5.out.froz z6 p
      have z3 := M5.out.lt z6
      have Z6 : Hid _ := z6
      clear z6
      go_wp2_with fail
      refine NoPanic.normal ?_
      go_wp2_with fail
      go_roundw
      case rel =>
        refine ⟨l ++ [⟨k, ti⟩], .slice (some ⟨gg, 0, none⟩) (l.length + 1) cap2, (fun z => lf z && !decide (z = k)), c2, by simp; omega, ?_, ?_, ?_, fun e => by simp at e⟩
        · show Mm _ _ _ _
          have h := ((M5.out.store Z6.out p (.slice (some ⟨gg, 0, none⟩) (l.length + 1) cap2)).drop (4, 5)).drop (20, 0)
          rw [← HR4.out] at h
          rw [show (fl Sc.enc l ++ ([.int .i64 k, .int .i64 ti] : List Value)) = fl Sc.enc l ++ Sc.enc ⟨k, ti⟩ from rfl, st4_step ρ qb P vs p vsp _ l ⟨k, ti⟩ _ _ _ hp] at h
          exact h
        · exact G5.out.kept (set_grown w5 qb p _) (fun e => by obtain ⟨left, _, h2, _⟩ := G5.out; exact M5.out.notMap h2.1 Z6.out e.symm) (fun e => by obtain ⟨left, h2, _⟩ := G5.out; exact M5.out.notIter h2 Z6.out e.symm)
        · exact secs_step HS2.out k ti hk1 HPK.out HLK.out ⟨acc, HMI.out, HTI.out.symm⟩
      case measure =>
        have g5 : Rg (w5.setCell ⟨qb, p, none⟩ (.slice (some ⟨gg, 0, none⟩) (l.length + 1) cap2)) mb rb n D vm pr (fun z => lf z && !decide (z = k)) c2 := G5.out.kept (set_grown w5 qb p _) (fun e => by obtain ⟨left, _, h2, _⟩ := G5.out; exact M5.out.notMap h2.1 Z6.out e.symm) (fun e => by obtain ⟨left, h2, _⟩ := G5.out; exact M5.out.notIter h2 Z6.out e.symm)
        rw [g5.left_eq, HR.out.left_eq]; exact hlt

end Go.Proofs.Ybulkebla

