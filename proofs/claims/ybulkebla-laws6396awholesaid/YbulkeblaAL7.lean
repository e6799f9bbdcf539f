import Derived.Test.YbulkeblaAL3
/-! index's last loop: reach. -/
namespace Go.Proofs.Ybulkebla
open Go.RowKit Go.Lib
set_option linter.unusedVariables false
set_option linter.unusedSectionVars false
variable [Inhabited Rn] [Inhabited Hs]

/-- The running greatest last item. -/
def rm (bs : List Hs) : Nat → Int
  | 0 => (bs.getD 0 default).last
  | k + 1 => max (bs.getD (k + 1) default).last (rm bs k)
def rch (bs : List Hs) (i : Nat) : List Value := vals bs.length (fun k => .int .i64 (if k < i then rm bs k else 0))
def st7 (ρ : Lb → Option Rw) (eb : Nat) (bs : List Hs) (i : Nat) : Lb → Option Rw := upd (upd ρ (4, 6) none) (15, 0) (some (bk eb 2 1 bs.length bs.length (rch bs i)))
theorem rch_set (bs : List Hs) (i : Nat) (x : Int) (h : i < bs.length) (hx : x = rm bs i) : (rch bs i).set i (.int .i64 x) = rch bs (i + 1) := by
  subst hx
  unfold rch
  rw [vals_set _ _ i _ h]
  unfold vals
  apply List.map_congr_left
  intro k hk
  by_cases e : k = i
  · subst e; simp
  · have e2 : k < i + 1 ↔ k < i := by omega
    simp [e, e2]
theorem st7_step (ρ : Lb → Option Rw) (eb : Nat) (bs : List Hs) (i : Nat) (y x z : Option Rw) (hx : x = some (bk eb 2 1 bs.length bs.length (rch bs (i + 1)))) : upd (upd (upd (upd (st7 ρ eb bs i) (4, 6) y) (15, 0) z) (15, 0) x) (4, 6) none = st7 ρ eb bs (i + 1) := by
  subst hx
  funext l
  simp only [st7, upd]
  by_cases h1 : l = (4, 6)
  · subst h1; simp
  by_cases h2 : l = (15, 0)
  · subst h2; simp
  simp [h1, h2]

set_option maxHeartbeats 4000000 in
set_option maxRecDepth 100000 in
theorem loop7 {c0 c2 c3 c4 c5 c6 c7 c8 c9 c10 c11 c12 c13 c14 c15 c16 c17 c18 c19 c20 c21 c22 c23 c24 c25 c26 c27 c28 c29 c30 c31 c32 c33 c34 c35 c36 c37 c38 c39 c40 c41 c42 c43 c44 c45 c46 c47 c48 c49 c50 c51 c52 c53 c54 c55 c56 c57 c58 c59 c60 c61 c62 c63 c64 c65 c66 c67 c68 c69 c70 c71 c72 c73 c74 c75 c76 c77 c78 c79 c80 c81 c82 c83 c84 c85 c86 c87 c88 c89 c90 c91 c92 c93 c94 c95 c96 c97 c98 c99 c100 c101 c102 c103 c104 c105 c106 c107 c108 c109 c110 c111 c112 c113 c114 c115 c116 c117 c118 c119 c120 c121 c122 c123 c124 c125 c126 c127 c128 c129 c130 c131 c132 c133 c134 c135 c136 c137 c138 c139 c140 c141 c142 c143 c144 c145 c146 c147 c148 c149 c150 c151 c152 c153 c154 c155 c156 c157 c158 c159 c160 c161 c162 c163 c164 c165 c166 c167 c168 c169 c170 c171 c172 c173 c174 c175 c176 c177 c178 c179 c180 c181 c182 c183 c184 c185 c186 c187 c188 c189 c190 c191 c192 c193 c194 c195 c196 c197 c198 c199 c200 c201 c202 c203 c204 c205 c206 c207 c208 c209 c210 c211 c212 c213 c214 c215 c216 c217 c218 c219 c220 c221 c222 c223 c224 c225 c226 c227 c228 c229 c230 c231 c232 c233 c234 c235 c236 c237 c238 c242 c243 c244 c245 c246 c247 c248 c249 c250 c251 c252 c253 c254 c255 c256 c257 c258 c259 c260 c261 c262 c263 c264 c265 c266 c267 c268 c269 c270 c271 c272 c273 c274 c275 c276 c277 c278 c279 : Value} (w0 w : World) (B : Nat) (ρ : Lb → Option Rw) (C cb eb : Nat) (A : List Value) (v : Value) (bs : List Hs)
    (hM : Mm w0 w B ρ) (hbs : bs.length ≤ 200000) (hA6 : A[6]? = some (.slice (some ⟨eb, 0, none⟩) bs.length bs.length))
    (h0 : ρ (4, 0) = some (bk C 43 10 1 1 A)) (h1 : ρ (4, 1) = some (bk cb 31 1 1 1 [.pointer (some ⟨C, 0, none⟩)])) (h12 : ρ (12, 0) = some ⟨v, 35, 3, bs.length, fl Hs.enc bs⟩) (h15 : ρ (15, 0) = some (bk eb 2 1 bs.length bs.length (rch bs 0))) (Q : Exit → Act → World → Prop)
    (hexit : ∀ (u17 u18 u241 u242 u243 u244 u245 u246 u247 u248 u249 u250 u251 u252 u253 u254 u255 u256 u257 u258 u259 u260 u261 u262 u263 u264 u265 u266 u267 u268 u269 u270 u271 u272 u273 u274 u275 u276 u277 u278 u279 : Value) (w' : World), Mm w0 w' B (st7 ρ eb bs bs.length) → Q .normal ⟨#[c0, .pointer (some ⟨cb, 0, none⟩), c2, c3, c4, c5, c6, c7, c8, c9, c10, c11, c12, c13, c14, c15, c16, u17, u18, c19, c20, c21, c22, c23, c24, c25, c26, c27, c28, c29, c30, c31, c32, c33, c34, c35, c36, c37, c38, c39, c40, c41, c42, c43, c44, c45, c46, c47, c48, c49, c50, c51, c52, c53, c54, c55, c56, c57, c58, c59, c60, c61, c62, c63, c64, c65, c66, c67, c68, c69, c70, c71, c72, c73, c74, c75, c76, c77, c78, c79, c80, c81, c82, c83, c84, c85, c86, c87, c88, c89, c90, c91, c92, c93, c94, c95, c96, c97, c98, c99, c100, c101, c102, c103, c104, c105, c106, c107, c108, c109, c110, c111, c112, c113, c114, c115, c116, c117, c118, c119, c120, c121, c122, c123, c124, c125, c126, c127, c128, c129, c130, c131, c132, c133, c134, c135, c136, c137, c138, c139, c140, c141, c142, c143, c144, c145, c146, c147, c148, c149, c150, c151, c152, c153, c154, c155, c156, c157, c158, c159, c160, c161, c162, c163, c164, c165, c166, c167, c168, c169, c170, c171, c172, c173, c174, c175, c176, c177, c178, c179, c180, c181, c182, c183, c184, c185, c186, c187, c188, c189, c190, c191, c192, c193, c194, c195, c196, c197, c198, c199, c200, c201, c202, c203, c204, c205, c206, c207, c208, c209, c210, c211, c212, c213, c214, c215, c216, c217, c218, c219, c220, c221, c222, c223, c224, c225, c226, c227, c228, c229, c230, c231, c232, c233, c234, c235, c236, c237, c238, v, .int .i64 (bs.length : Nat), u241, u242, u243, u244, u245, u246, u247, u248, u249, u250, u251, u252, u253, u254, u255, u256, u257, u258, u259, u260, u261, u262, u263, u264, u265, u266, u267, u268, u269, u270, u271, u272, u273, u274, u275, u276, u277, u278, u279], []⟩ w') :
    Code.wp Yba.prog (pick [true, true, true, true, true, true, true, true, true, true, true, true] (Yba.f7.body.getD .skip)) Q ⟨#[c0, .pointer (some ⟨cb, 0, none⟩), c2, c3, c4, c5, c6, c7, c8, c9, c10, c11, c12, c13, c14, c15, c16, c17, c18, c19, c20, c21, c22, c23, c24, c25, c26, c27, c28, c29, c30, c31, c32, c33, c34, c35, c36, c37, c38, c39, c40, c41, c42, c43, c44, c45, c46, c47, c48, c49, c50, c51, c52, c53, c54, c55, c56, c57, c58, c59, c60, c61, c62, c63, c64, c65, c66, c67, c68, c69, c70, c71, c72, c73, c74, c75, c76, c77, c78, c79, c80, c81, c82, c83, c84, c85, c86, c87, c88, c89, c90, c91, c92, c93, c94, c95, c96, c97, c98, c99, c100, c101, c102, c103, c104, c105, c106, c107, c108, c109, c110, c111, c112, c113, c114, c115, c116, c117, c118, c119, c120, c121, c122, c123, c124, c125, c126, c127, c128, c129, c130, c131, c132, c133, c134, c135, c136, c137, c138, c139, c140, c141, c142, c143, c144, c145, c146, c147, c148, c149, c150, c151, c152, c153, c154, c155, c156, c157, c158, c159, c160, c161, c162, c163, c164, c165, c166, c167, c168, c169, c170, c171, c172, c173, c174, c175, c176, c177, c178, c179, c180, c181, c182, c183, c184, c185, c186, c187, c188, c189, c190, c191, c192, c193, c194, c195, c196, c197, c198, c199, c200, c201, c202, c203, c204, c205, c206, c207, c208, c209, c210, c211, c212, c213, c214, c215, c216, c217, c218, c219, c220, c221, c222, c223, c224, c225, c226, c227, c228, c229, c230, c231, c232, c233, c234, c235, c236, c237, c238, v, .int .i64 (bs.length : Nat), .int .i64 0, c242, c243, c244, c245, c246, c247, c248, c249, c250, c251, c252, c253, c254, c255, c256, c257, c258, c259, c260, c261, c262, c263, c264, c265, c266, c267, c268, c269, c270, c271, c272, c273, c274, c275, c276, c277, c278, c279], []⟩ w := by
  have HM : Hid (Mm w0 w B ρ) := hM
  have H0 : Hid (ρ (4, 0) = some (bk C 43 10 1 1 A)) := h0
  have H1 : Hid (ρ (4, 1) = some (bk cb 31 1 1 1 [.pointer (some ⟨C, 0, none⟩)])) := h1
  have H12 : Hid (ρ (12, 0) = some ⟨v, 35, 3, bs.length, fl Hs.enc bs⟩) := h12
  have H15 : Hid (ρ (15, 0) = some (bk eb 2 1 bs.length bs.length (rch bs 0))) := h15
  have HE : Hid (∀ (u17 u18 u241 u242 u243 u244 u245 u246 u247 u248 u249 u250 u251 u252 u253 u254 u255 u256 u257 u258 u259 u260 u261 u262 u263 u264 u265 u266 u267 u268 u269 u270 u271 u272 u273 u274 u275 u276 u277 u278 u279 : Value) (w' : World), Mm w0 w' B (st7 ρ eb bs bs.length) → Q .normal ⟨#[c0, .pointer (some ⟨cb, 0, none⟩), c2, c3, c4, c5, c6, c7, c8, c9, c10, c11, c12, c13, c14, c15, c16, u17, u18, c19, c20, c21, c22, c23, c24, c25, c26, c27, c28, c29, c30, c31, c32, c33, c34, c35, c36, c37, c38, c39, c40, c41, c42, c43, c44, c45, c46, c47, c48, c49, c50, c51, c52, c53, c54, c55, c56, c57, c58, c59, c60, c61, c62, c63, c64, c65, c66, c67, c68, c69, c70, c71, c72, c73, c74, c75, c76, c77, c78, c79, c80, c81, c82, c83, c84, c85, c86, c87, c88, c89, c90, c91, c92, c93, c94, c95, c96, c97, c98, c99, c100, c101, c102, c103, c104, c105, c106, c107, c108, c109, c110, c111, c112, c113, c114, c115, c116, c117, c118, c119, c120, c121, c122, c123, c124, c125, c126, c127, c128, c129, c130, c131, c132, c133, c134, c135, c136, c137, c138, c139, c140, c141, c142, c143, c144, c145, c146, c147, c148, c149, c150, c151, c152, c153, c154, c155, c156, c157, c158, c159, c160, c161, c162, c163, c164, c165, c166, c167, c168, c169, c170, c171, c172, c173, c174, c175, c176, c177, c178, c179, c180, c181, c182, c183, c184, c185, c186, c187, c188, c189, c190, c191, c192, c193, c194, c195, c196, c197, c198, c199, c200, c201, c202, c203, c204, c205, c206, c207, c208, c209, c210, c211, c212, c213, c214, c215, c216, c217, c218, c219, c220, c221, c222, c223, c224, c225, c226, c227, c228, c229, c230, c231, c232, c233, c234, c235, c236, c237, c238, v, .int .i64 (bs.length : Nat), u241, u242, u243, u244, u245, u246, u247, u248, u249, u250, u251, u252, u253, u254, u255, u256, u257, u258, u259, u260, u261, u262, u263, u264, u265, u266, u267, u268, u269, u270, u271, u272, u273, u274, u275, u276, u277, u278, u279], []⟩ w') := hexit
  obtain ⟨n, hn⟩ : ∃ n, bs.length = n := ⟨_, rfl⟩
  have HN : Hid (bs.length = n) := hn
  have HA : Hid (A[6]? = some (.slice (some ⟨eb, 0, none⟩) n n)) := by show _ = _; rw [← hn]; exact hA6
  rw [hn] at hbs ⊢
  clear hM h0 h1 h12 h15 hA6 hexit hn
  conv => arg 2; whnf
  go_wp2_with fail
  go_loopw [241] (fun v241 wr => ∃ (i : Nat), v241 = .int .i64 i ∧ i ≤ n ∧ Hid (Mm w0 wr B (st7 ρ eb bs i))) (fun v241 _ => n - (RowKit.intOf v241).toNat)
  case atStart =>
    refine ⟨0, rfl, by omega, ?_⟩
    show Mm _ _ _ _
    have h := HM.out.drop (4, 6)
    unfold st7
    rw [upd_self _ (15, 0) _ (by rw [upd_other _ _ (by simp)]; exact H15.out)]
    exact h
  case round =>
    obtain ⟨i, rfl, hi, HW⟩ := hrel
    by_cases hin : i < n
    · have hin2 : i < bs.length := by rw [HN.out]; exact hin
      have hr : (st7 ρ eb bs i) (12, 0) = some ⟨v, 35, 3, bs.length, fl Hs.enc bs⟩ := by simp only [st7]; rw [upd_other _ _ (by simp), upd_other _ _ (by simp)]; exact H12.out
      have ho := HW.out.mem.own _ _ hr
      obtain ⟨g, cap, hv⟩ := Joins.ownsRow_form ho (by show 0 < bs.length; omega)
      simp only at hv
      subst hv
      rw [HN.out] at hr
      have hlen : ∀ x : Hs, (Hs.enc x).length = 3 := fun _ => rfl
      have cc0 := fl_at Hs.enc 3 hlen bs i 0 hin2 (by omega)
      have cc1 := fl_at Hs.enc 3 hlen bs i 1 hin2 (by omega)
      have cc2 := fl_at Hs.enc 3 hlen bs i 2 hin2 (by omega)
      rw [Nat.add_zero] at cc0
      obtain ⟨sf, HSF⟩ : ∃ sf, Hid ((bs.getD i default).first = sf) := ⟨_, rfl⟩
      obtain ⟨sl, HSL⟩ : ∃ sl, Hid ((bs.getD i default).last = sl) := ⟨_, rfl⟩
      obtain ⟨sp, HSP⟩ : ∃ sp, Hid ((bs.getD i default).peer = sp) := ⟨_, rfl⟩
      have k0 : wr.cell? ⟨g, i * 3, none⟩ = some (.int .i64 sf) := HW.out.cell hr (i * 3) (by rw [cc0, ← HSF.out]; rfl)
      have k1 : wr.cell? ⟨g, i * 3 + 1, none⟩ = some (.int .i64 sl) := HW.out.cell hr (i * 3 + 1) (by rw [cc1, ← HSL.out]; rfl)
      have k2 : wr.cell? ⟨g, i * 3 + 2, none⟩ = some (.int .i32 sp) := HW.out.cell hr (i * 3 + 2) (by rw [cc2, ← HSP.out]; rfl)
      have lg := HW.out.lt hr
      clear cc0 cc1 cc2 ho hlen hr
      go_wp2_with fail
      obtain ⟨g8, HG8⟩ : ∃ g8, Hid (wr.heap.size = g8) := ⟨_, rfl⟩
      rw [HG8.out]
      have M1 : Hid (Mm w0 (wr.alloc (.cells #[.int .i64 sf, .int .i64 sl, .int .i32 sp] 35)) B (upd (st7 ρ eb bs i) (4, 6) (some (bk g8 35 3 1 1 [.int .i64 sf, .int .i64 sl, .int .i32 sp])))) := HW.out.box (4, 6) #[.int .i64 sf, .int .i64 sl, .int .i32 sp] 35 3 1 (by decide) rfl HG8.out
      generalize wr.alloc (.cells #[.int .i64 sf, .int .i64 sl, .int .i32 sp] 35) = w1 at M1 ⊢
      obtain ⟨ρ1, HR1⟩ : ∃ ρ1, Hid (upd (st7 ρ eb bs i) (4, 6) (some (bk g8 35 3 1 1 [.int .i64 sf, .int .i64 sl, .int .i32 sp])) = ρ1) := ⟨_, rfl⟩
      rw [HR1.out] at M1
      have r0 : ρ1 (4, 0) = some (bk C 43 10 1 1 A) := by rw [← HR1.out]; simp only [st7]; rw [upd_other _ _ (by simp), upd_other _ _ (by simp), upd_other _ _ (by simp)]; exact H0.out
      have r1 : ρ1 (4, 1) = some (bk cb 31 1 1 1 [.pointer (some ⟨C, 0, none⟩)]) := by rw [← HR1.out]; simp only [st7]; rw [upd_other _ _ (by simp), upd_other _ _ (by simp), upd_other _ _ (by simp)]; exact H1.out
      have r6 : ρ1 (4, 6) = (some (bk g8 35 3 1 1 [.int .i64 sf, .int .i64 sl, .int .i32 sp])) := by rw [← HR1.out, upd_same]
      have r15 : ρ1 (15, 0) = some (bk eb 2 1 bs.length bs.length (rch bs i)) := by rw [← HR1.out]; simp only [st7]; rw [upd_other _ _ (by simp), upd_same]
      have va : (rch bs i)[i]? = some (.int .i64 0) := by unfold rch; rw [vals_at _ _ i hin2]; simp
      have x1 := M1.out.cell r1 0 rfl
      have x2 : w1.cell? ⟨C, 6, none⟩ = some (.slice (some ⟨eb, 0, none⟩) n n) := M1.out.cell r0 6 HA.out
      have x3 := M1.out.cell r6 1 rfl
      have x4 := M1.out.cell r15 i va
      have y4 := M1.out.froz r15 i
      have l0 := M1.out.lt r0
      have l1 := M1.out.lt r1
      have l6 := M1.out.lt r6
      have l15 := M1.out.lt r15
      have R0 : Hid _ := r0
      have R1 : Hid _ := r1
      have R15 : Hid _ := r15
      clear r0 r1 r6 r15 k0 k1 k2 lg va
      rcases Nat.eq_zero_or_pos i with hz | hz
      · subst hz
        go_wp2_with fail
        refine wp_region_still_tail 8 (by kernel_rfl) (by kernel_rfl) ?_
        change wpStill _ _ (World.drew _) _ _ _
        simp only [List.take_succ_cons, List.take_zero, List.drop_succ_cons, List.drop_zero]
        repeat still_step
        refine wpStill_nil ?_
        go_wp2_with fail

        have M2 : Hid (Mm w0 (w1.setCell ⟨eb, 0, none⟩ (.int .i64 sl)).drew B (upd ρ1 (15, 0) (some (bk eb 2 1 bs.length bs.length ((rch bs 0).set 0 (.int .i64 sl)))))) := (M1.out.store R15.out 0 (.int .i64 sl)).drew
        go_roundw
        case rel =>
          refine ⟨1, by go_num, by omega, ?_⟩
          show Mm _ _ _ _
          have h := M2.out.drop (4, 6)
          rw [← HR1.out, rch_set bs 0 sl hin2 HSL.out.symm] at h
          rw [← st7_step ρ eb bs 0 (some (bk g8 35 3 1 1 [.int .i64 sf, .int .i64 sl, .int .i32 sp])) _ _ rfl, upd_upd (upd (st7 ρ eb bs 0) (4, 6) (some (bk g8 35 3 1 1 [.int .i64 sf, .int .i64 sl, .int .i32 sp])))]
          exact h
          exact none
        case measure => simp [RowKit.intOf]; omega
      · obtain ⟨j, rfl⟩ : ∃ j, i = j + 1 := ⟨i - 1, by omega⟩
        go_wp2_with fail
        refine wp_region_still_tail 8 (by kernel_rfl) (by kernel_rfl) ?_
        change wpStill _ _ (World.drew _) _ _ _
        simp only [List.take_succ_cons, List.take_zero, List.drop_succ_cons, List.drop_zero]
        repeat still_step
        refine wpStill_nil ?_
        go_wp2_with fail

        have M2 : Hid (Mm w0 (w1.setCell ⟨eb, j + 1, none⟩ (.int .i64 sl)).drew B (upd ρ1 (15, 0) (some (bk eb 2 1 bs.length bs.length ((rch bs (j + 1)).set (j + 1) (.int .i64 sl)))))) := (M1.out.store R15.out (j + 1) (.int .i64 sl)).drew
        generalize (w1.setCell ⟨eb, j + 1, none⟩ (.int .i64 sl)).drew = w2 at M2 ⊢
        obtain ⟨ρ2, HR2⟩ : ∃ ρ2, Hid (upd ρ1 (15, 0) (some (bk eb 2 1 bs.length bs.length ((rch bs (j + 1)).set (j + 1) (.int .i64 sl)))) = ρ2) := ⟨_, rfl⟩
        rw [HR2.out] at M2
        have r0 : ρ2 (4, 0) = some (bk C 43 10 1 1 A) := by rw [← HR2.out, upd_other _ _ (by simp)]; exact R0.out
        have r1 : ρ2 (4, 1) = some (bk cb 31 1 1 1 [.pointer (some ⟨C, 0, none⟩)]) := by rw [← HR2.out, upd_other _ _ (by simp)]; exact R1.out
        have r15 : ρ2 (15, 0) = some (bk eb 2 1 bs.length bs.length ((rch bs (j + 1)).set (j + 1) (.int .i64 sl))) := by rw [← HR2.out, upd_same]
        have lr : (rch bs (j + 1)).length = bs.length := by simp [rch, vals]
        have va : ((rch bs (j + 1)).set (j + 1) (.int .i64 sl))[j + 1]? = some (.int .i64 sl) := by rw [List.getElem?_set_self (by rw [lr]; exact hin2)]
        have vb : ((rch bs (j + 1)).set (j + 1) (.int .i64 sl))[j]? = some (.int .i64 (rm bs j)) := by rw [List.getElem?_set_ne (by omega)]; unfold rch; rw [vals_at _ _ j (by omega)]; simp
        clear x1 x2 x3 x4 y4 l0 l1 l6 l15
        have x1 := M2.out.cell r1 0 rfl
        have x2 : w2.cell? ⟨C, 6, none⟩ = some (.slice (some ⟨eb, 0, none⟩) n n) := M2.out.cell r0 6 HA.out
        have x4 := M2.out.cell r15 (j + 1) va
        have x5 := M2.out.cell r15 j vb
        have y4 := M2.out.froz r15 (j + 1)
        have l0 := M2.out.lt r0
        have l1 := M2.out.lt r1
        have l15 := M2.out.lt r15
        obtain ⟨mj, HMJ⟩ : ∃ mj, Hid (rm bs j = mj) := ⟨_, rfl⟩
        rw [HMJ.out] at x5
        have R15' : Hid _ := r15
        clear r0 r1 r15 va vb lr
        have hp1 : (0 : Int) ≤ (j : Int) + 1 := by omega
        have hp2 : (j : Int) + 1 < (n : Int) := by omega
        have hp3 : (0 : Int) ≤ (j : Int) := by omega
        have hp4 : (j : Int) < (n : Int) := by omega
        have hp5 : (j : Int) + 1 - 1 = (j : Int) := by omega
        have hp6 : ((j : Int) + 1).toNat = j + 1 := by omega
        refine wp_region_still_tail 21 (by kernel_rfl) (by kernel_rfl) ?_
        change wpStill _ _ (World.drew _) _ _ _
        simp only [List.take_succ_cons, List.take_zero, List.drop_succ_cons, List.drop_zero]
        iterate 18 still_step
        rw [show IntKind.i64.wrap (j : Int) = (j : Int) from IntWalk.i64_in _ (by omega)]
        repeat still_step
        refine wpStill_nil ?_
        go_wp2_with fail
        have M3 : Hid (Mm w0 (w2.setCell ⟨eb, j + 1, none⟩ (.int .i64 (max sl mj))).drew B (upd ρ2 (15, 0) (some (bk eb 2 1 bs.length bs.length (((rch bs (j + 1)).set (j + 1) (.int .i64 sl)).set (j + 1) (.int .i64 (max sl mj))))))) := (M2.out.store R15'.out (j + 1) (.int .i64 (max sl mj))).drew
        go_roundw
        case rel =>
          refine ⟨j + 1 + 1, by go_num, by omega, ?_⟩
          show Mm _ _ _ _
          have h := M3.out.drop (4, 6)
          have e : (((rch bs (j + 1)).set (j + 1) (.int .i64 sl)).set (j + 1) (.int .i64 (max sl mj))) = rch bs (j + 1 + 1) := by
            rw [List.set_set]; exact rch_set bs (j + 1) _ hin2 (by rw [← HSL.out, ← HMJ.out]; rfl)
          rw [← HR2.out, ← HR1.out, e, st7_step ρ eb bs (j + 1) _ _ _ rfl] at h
          exact h
        case measure => simp [RowKit.intOf]; omega
    · go_wp2_with fail
      obtain rfl : i = n := by omega
      have hw := HW.out
      have he := HE.out
      rw [HN.out] at he
      exact he _ _ _ _ _ _ _ _ _ _ _ _ _ _ _ _ _ _ _ _ _ _ _ _ _ _ _ _ _ _ _ _ _ _ _ _ _ _ _ _ _ _ hw

end Go.Proofs.Ybulkebla

