import Derived.Test.YbulkeblaAMm
import Derived.Test.YbulkeblaAPick
import Derived.Test.YbulkeblaAMerge
import Derived.Test.YbulkeblaAUnion
import Derived.Deep.CutBlock
import Derived.Deep.DeepCutAuto
/-! index's inner loop over a section's spans: the sum of their lengths. -/
namespace Go.Proofs.Ybulkebla
open Go.RowKit Go.Lib
set_option linter.unusedVariables false

theorem spc_at : ∀ (acc : List Sp) (i : Nat) (h : i < acc.length), (spc acc)[i * 2]? = some (.int .i64 acc[i].first) ∧ (spc acc)[i * 2 + 1]? = some (.int .i64 acc[i].last)
  | s :: acc, 0, h => by simp [spc]
  | s :: acc, i + 1, h => by
    have := spc_at acc i (by simpa using h)
    rw [show (i + 1) * 2 = i * 2 + 2 by omega]
    simpa [spc] using this
theorem tot_take (acc : List Sp) (i : Nat) (h : i < acc.length) : tot (acc.take (i + 1)) = tot (acc.take i) + (acc[i].last - acc[i].first + 1) := by
  rw [List.take_add_one, List.getElem?_eq_getElem h, Option.toList_some, tot_append]
  simp [tot]
/-- The spans that a call of merge gives. -/
def Small (acc : List Sp) : Prop := acc.length ≤ 4096 ∧ ∀ s ∈ acc, -40000 ≤ s.first ∧ s.first ≤ s.last ∧ s.last ≤ 40000
theorem tot_small {acc : List Sp} (h : ∀ s ∈ acc, -40000 ≤ s.first ∧ s.first ≤ s.last ∧ s.last ≤ 40000) : 0 ≤ tot acc ∧ tot acc ≤ 80001 * acc.length := by
  induction acc with
  | nil => simp [tot]
  | cons s acc ih =>
    have h1 := ih (fun t ht => h t (List.mem_cons_of_mem _ ht))
    have h2 := h s List.mem_cons_self
    simp only [tot, List.length_cons]
    omega
theorem small_take {acc : List Sp} (h : Small acc) (i : Nat) : 0 ≤ tot (acc.take i) ∧ tot (acc.take i) ≤ 400000000 := by
  have h1 := tot_small (acc := acc.take i) (fun s hs => h.2 s (List.mem_of_mem_take hs))
  have h2 : (acc.take i).length ≤ 4096 := Nat.le_trans (by rw [List.length_take]; omega) h.1
  omega

set_option maxHeartbeats 2000000 in
set_option maxRecDepth 100000 in
theorem loop5 {c0 c1 c2 c3 c4 c5 c6 c7 c8 c9 c10 c11 c13 c14 c15 c16 c17 c18 c19 c20 c21 c22 c23 c24 c25 c26 c27 c28 c29 c30 c31 c32 c33 c34 c35 c36 c37 c38 c39 c40 c41 c42 c43 c44 c45 c46 c47 c48 c49 c50 c51 c52 c53 c54 c55 c56 c57 c58 c59 c60 c61 c62 c63 c64 c65 c66 c67 c68 c69 c70 c71 c72 c73 c74 c75 c76 c77 c78 c79 c80 c81 c82 c83 c84 c85 c86 c87 c88 c89 c90 c91 c92 c93 c94 c95 c96 c97 c98 c99 c100 c101 c102 c103 c104 c105 c106 c107 c108 c109 c110 c111 c112 c113 c114 c115 c116 c117 c118 c119 c120 c121 c122 c123 c124 c125 c126 c127 c128 c129 c130 c131 c132 c133 c134 c135 c136 c137 c138 c139 c140 c141 c142 c143 c144 c145 c146 c147 c148 c149 c153 c154 c155 c156 c157 c158 c159 c160 c161 c162 c163 c164 c165 c166 c167 c168 c169 c170 c171 c172 c173 c174 c175 c176 c177 c178 c179 c180 c181 c182 c183 c184 c185 c186 c187 c188 c189 c190 c191 c192 c193 c194 c195 c196 c197 c198 c199 c200 c201 c202 c203 c204 c205 c206 c207 c208 c209 c210 c211 c212 c213 c214 c215 c216 c217 c218 c219 c220 c221 c222 c223 c224 c225 c226 c227 c228 c229 c230 c231 c232 c233 c234 c235 c236 c237 c238 c239 c240 c241 c242 c243 c244 c245 c246 c247 c248 c249 c250 c251 c252 c253 c254 c255 c256 c257 c258 c259 c260 c261 c262 c263 c264 c265 c266 c267 c268 c269 c270 c271 c272 c273 c274 c275 c276 c277 c278 c279 : Value} (w0 w : World) (B : Nat) (ρ : Lb → Option Rw) (hb id : Nat) (v : Value) (acc : List Sp) (hM : Mm w0 w B ρ) (hS : Small acc)
    (h1 : ρ (4, 5) = some (bk hb 56 2 1 1 [.int .i64 id, .int .i64 0])) (h2 : ρ (20, 0) = some ⟨v, 33, 2, acc.length, spc acc⟩) (Q : Exit → Act → World → Prop)
    (hexit : ∀ (u14 u152 u153 u154 u155 u156 u157 u158 u159 u160 u161 u162 u163 u164 u165 u166 : Value) (w' : World), Mm w0 w' B (upd ρ (4, 5) (some (bk hb 56 2 1 1 [.int .i64 id, .int .i64 (tot acc)]))) → w.grownBy w' (some hb) → Q .normal ⟨#[c0, c1, c2, c3, c4, c5, c6, c7, c8, c9, c10, c11, .pointer (some ⟨hb, 0, none⟩), c13, u14, c15, c16, c17, c18, c19, c20, c21, c22, c23, c24, c25, c26, c27, c28, c29, c30, c31, c32, c33, c34, c35, c36, c37, c38, c39, c40, c41, c42, c43, c44, c45, c46, c47, c48, c49, c50, c51, c52, c53, c54, c55, c56, c57, c58, c59, c60, c61, c62, c63, c64, c65, c66, c67, c68, c69, c70, c71, c72, c73, c74, c75, c76, c77, c78, c79, c80, c81, c82, c83, c84, c85, c86, c87, c88, c89, c90, c91, c92, c93, c94, c95, c96, c97, c98, c99, c100, c101, c102, c103, c104, c105, c106, c107, c108, c109, c110, c111, c112, c113, c114, c115, c116, c117, c118, c119, c120, c121, c122, c123, c124, c125, c126, c127, c128, c129, c130, c131, c132, c133, c134, c135, c136, c137, c138, c139, c140, c141, c142, c143, c144, c145, c146, c147, c148, c149, v, .int .i64 (acc.length : Nat), u152, u153, u154, u155, u156, u157, u158, u159, u160, u161, u162, u163, u164, u165, u166, c167, c168, c169, c170, c171, c172, c173, c174, c175, c176, c177, c178, c179, c180, c181, c182, c183, c184, c185, c186, c187, c188, c189, c190, c191, c192, c193, c194, c195, c196, c197, c198, c199, c200, c201, c202, c203, c204, c205, c206, c207, c208, c209, c210, c211, c212, c213, c214, c215, c216, c217, c218, c219, c220, c221, c222, c223, c224, c225, c226, c227, c228, c229, c230, c231, c232, c233, c234, c235, c236, c237, c238, c239, c240, c241, c242, c243, c244, c245, c246, c247, c248, c249, c250, c251, c252, c253, c254, c255, c256, c257, c258, c259, c260, c261, c262, c263, c264, c265, c266, c267, c268, c269, c270, c271, c272, c273, c274, c275, c276, c277, c278, c279], []⟩ w') :
    Code.wp Yba.prog (pick [true, true, true, true, true, true, false, true, false, false, true, true, false, false, true, true, true, true, true, false, true, false, false, true, true, false, true, true, false, true] (Yba.f7.body.getD .skip)) Q ⟨#[c0, c1, c2, c3, c4, c5, c6, c7, c8, c9, c10, c11, .pointer (some ⟨hb, 0, none⟩), c13, c14, c15, c16, c17, c18, c19, c20, c21, c22, c23, c24, c25, c26, c27, c28, c29, c30, c31, c32, c33, c34, c35, c36, c37, c38, c39, c40, c41, c42, c43, c44, c45, c46, c47, c48, c49, c50, c51, c52, c53, c54, c55, c56, c57, c58, c59, c60, c61, c62, c63, c64, c65, c66, c67, c68, c69, c70, c71, c72, c73, c74, c75, c76, c77, c78, c79, c80, c81, c82, c83, c84, c85, c86, c87, c88, c89, c90, c91, c92, c93, c94, c95, c96, c97, c98, c99, c100, c101, c102, c103, c104, c105, c106, c107, c108, c109, c110, c111, c112, c113, c114, c115, c116, c117, c118, c119, c120, c121, c122, c123, c124, c125, c126, c127, c128, c129, c130, c131, c132, c133, c134, c135, c136, c137, c138, c139, c140, c141, c142, c143, c144, c145, c146, c147, c148, c149, v, .int .i64 (acc.length : Nat), .int .i64 0, c153, c154, c155, c156, c157, c158, c159, c160, c161, c162, c163, c164, c165, c166, c167, c168, c169, c170, c171, c172, c173, c174, c175, c176, c177, c178, c179, c180, c181, c182, c183, c184, c185, c186, c187, c188, c189, c190, c191, c192, c193, c194, c195, c196, c197, c198, c199, c200, c201, c202, c203, c204, c205, c206, c207, c208, c209, c210, c211, c212, c213, c214, c215, c216, c217, c218, c219, c220, c221, c222, c223, c224, c225, c226, c227, c228, c229, c230, c231, c232, c233, c234, c235, c236, c237, c238, c239, c240, c241, c242, c243, c244, c245, c246, c247, c248, c249, c250, c251, c252, c253, c254, c255, c256, c257, c258, c259, c260, c261, c262, c263, c264, c265, c266, c267, c268, c269, c270, c271, c272, c273, c274, c275, c276, c277, c278, c279], []⟩ w := by
  have HM : Hid (Mm w0 w B ρ) := hM
  have H1 : Hid (ρ (4, 5) = some (bk hb 56 2 1 1 [.int .i64 id, .int .i64 0])) := h1
  have H2 : Hid (ρ (20, 0) = some ⟨v, 33, 2, acc.length, spc acc⟩) := h2
  have HS : Hid (Small acc) := hS
  have HE : Hid (∀ (u14 u152 u153 u154 u155 u156 u157 u158 u159 u160 u161 u162 u163 u164 u165 u166 : Value) (w' : World), Mm w0 w' B (upd ρ (4, 5) (some (bk hb 56 2 1 1 [.int .i64 id, .int .i64 (tot acc)]))) → w.grownBy w' (some hb) → Q .normal ⟨#[c0, c1, c2, c3, c4, c5, c6, c7, c8, c9, c10, c11, .pointer (some ⟨hb, 0, none⟩), c13, u14, c15, c16, c17, c18, c19, c20, c21, c22, c23, c24, c25, c26, c27, c28, c29, c30, c31, c32, c33, c34, c35, c36, c37, c38, c39, c40, c41, c42, c43, c44, c45, c46, c47, c48, c49, c50, c51, c52, c53, c54, c55, c56, c57, c58, c59, c60, c61, c62, c63, c64, c65, c66, c67, c68, c69, c70, c71, c72, c73, c74, c75, c76, c77, c78, c79, c80, c81, c82, c83, c84, c85, c86, c87, c88, c89, c90, c91, c92, c93, c94, c95, c96, c97, c98, c99, c100, c101, c102, c103, c104, c105, c106, c107, c108, c109, c110, c111, c112, c113, c114, c115, c116, c117, c118, c119, c120, c121, c122, c123, c124, c125, c126, c127, c128, c129, c130, c131, c132, c133, c134, c135, c136, c137, c138, c139, c140, c141, c142, c143, c144, c145, c146, c147, c148, c149, v, .int .i64 (acc.length : Nat), u152, u153, u154, u155, u156, u157, u158, u159, u160, u161, u162, u163, u164, u165, u166, c167, c168, c169, c170, c171, c172, c173, c174, c175, c176, c177, c178, c179, c180, c181, c182, c183, c184, c185, c186, c187, c188, c189, c190, c191, c192, c193, c194, c195, c196, c197, c198, c199, c200, c201, c202, c203, c204, c205, c206, c207, c208, c209, c210, c211, c212, c213, c214, c215, c216, c217, c218, c219, c220, c221, c222, c223, c224, c225, c226, c227, c228, c229, c230, c231, c232, c233, c234, c235, c236, c237, c238, c239, c240, c241, c242, c243, c244, c245, c246, c247, c248, c249, c250, c251, c252, c253, c254, c255, c256, c257, c258, c259, c260, c261, c262, c263, c264, c265, c266, c267, c268, c269, c270, c271, c272, c273, c274, c275, c276, c277, c278, c279], []⟩ w') := hexit
  clear hM h1 h2 hS hexit
  have hal : acc.length ≤ 4096 := HS.out.1
  obtain ⟨n, hn⟩ : ∃ n, acc.length = n := ⟨_, rfl⟩
  rw [hn] at hal ⊢
  have HN : Hid (acc.length = n) := hn
  clear hn
  conv => arg 2; whnf
  go_wp2_with fail
  go_loopw [152] (fun v152 wr => ∃ (i : Nat), v152 = .int .i64 i ∧ i ≤ n ∧ Hid (Mm w0 wr B (upd ρ (4, 5) (some (bk hb 56 2 1 1 [.int .i64 id, .int .i64 (tot (acc.take i))])))) ∧ Hid (w.grownBy wr (some hb))) (fun v152 _ => n - (RowKit.intOf v152).toNat)
  case atStart => 
    refine ⟨0, rfl, by omega, ?_⟩
    have : upd ρ (4, 5) (some (bk hb 56 2 1 1 [.int .i64 id, .int .i64 (tot (acc.take 0))])) = ρ := by
      funext l
      by_cases e : l = (4, 5)
      · subst e; rw [upd_same, H1.out]; rfl
      · rw [upd_other _ _ e]
    rw [this]; exact ⟨HM.out, gb_refl _ _⟩
  case round =>
    obtain ⟨i, rfl, hi, HW, HGW⟩ := hrel
    by_cases hin : i < n
    · have hin2 : i < acc.length := by rw [HN.out]; exact hin
      have hr : upd ρ (4, 5) (some (bk hb 56 2 1 1 [.int .i64 id, .int .i64 (tot (acc.take i))])) (20, 0) = some ⟨v, 33, 2, acc.length, spc acc⟩ := by rw [upd_other _ _ (by simp)]; exact H2.out
      have ho := HW.out.mem.own _ _ hr
      obtain ⟨g, cap, hv⟩ := Joins.ownsRow_form ho (by show 0 < acc.length; omega)
      simp only at hv
      subst hv
      rw [HN.out] at hr
      have cc := spc_at acc i hin2
      have k0 := HW.out.cell hr (i * 2) cc.1
      have k1 := HW.out.cell hr (i * 2 + 1) cc.2
      have lg := HW.out.lt hr
      have hk := upd_same ρ (4, 5) (some (bk hb 56 2 1 1 [.int .i64 id, .int .i64 (tot (acc.take i))]))
      have k2 := HW.out.cell hk 1 rfl
      have lh := HW.out.lt hk
      have f2 := HW.out.froz hk 1
      have b1 := HS.out.2 acc[i] (List.getElem_mem _)
      have b2 := small_take HS.out i
      have HT := tot_take acc i hin2
      have b3 := small_take HS.out (i + 1)
      rw [HT] at b3
      have HT2 : Hid _ := HT
      clear HT cc hr ho hk
      generalize tot (acc.take i) = t0 at b2 b3 HT2 k2
      generalize acc[i].first = sf at b1 b3 HT2 k0
      generalize acc[i].last = sl at b1 b3 HT2 k1
      go_wp2_with fail
      go_roundw
      case rel =>
        refine ⟨i + 1, by go_num, by omega, ?_, gb_alloc (gb_set HGW.out 1 _) _⟩
        show Mm _ _ _ _
        rw [HT2.out]
        have h := (HW.out.store (upd_same ρ (4, 5) _) 1 (.int .i64 (t0 + (sl - sf + 1)))).alloc (.cells #[.int .i64 sf, .int .i64 sl] 33)
        rw [upd_upd] at h
        exact h
      case measure => simp [RowKit.intOf]; omega
    · go_wp2_with fail
      obtain rfl : i = n := by omega
      have hw := HW.out
      rw [← HN.out, List.take_length] at hw
      have he := HE.out
      rw [HN.out] at he
      exact he _ _ _ _ _ _ _ _ _ _ _ _ _ _ _ _ _ hw HGW.out

end Go.Proofs.Ybulkebla

