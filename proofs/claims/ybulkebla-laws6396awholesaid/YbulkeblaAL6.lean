import Derived.Test.YbulkeblaAL3
import Derived.Test.YbulkeblaAMo
/-! index's loop over the sections: their items. -/
namespace Go.Proofs.Ybulkebla
open Go.RowKit Go.Lib
set_option linter.unusedVariables false
set_option linter.unusedSectionVars false
variable [Inhabited Rn] [Inhabited Hs] [Inhabited Sc]

/-- Section k's spans are those of its runs. -/
def Its (rows : Nat → List Rn) (vi : Nat → Value) (acs : Nat → List Sp) (k : Nat) : Prop := (∃ d, d.Perm (rows k) ∧ MergeInv (rsp d) (acs k)) ∧ Small (acs k) ∧ (acs k = [] → vi k = .slice none 0 0)
def st6 (ρ : Lb → Option Rw) (ib S : Nat) (vb : Nat → Value) (rows : Nat → List Rn) (i : Nat) (vi : Nat → Value) (acs : Nat → List Sp) : Lb → Option Rw := fun l =>
  if l.1 = 10 then if i ≤ l.2 ∧ l.2 < S then some ⟨vb l.2, 29, 4, (rows l.2).length, fl Rn.enc (rows l.2)⟩ else none
  else if l.1 = 14 then if l.2 < i then some ⟨vi l.2, 33, 2, (acs l.2).length, spc (acs l.2)⟩ else none
  else if l = (13, 0) then some (bk ib 51 1 S S (vals S vi))
  else ρ l
theorem st6_other {ρ : Lb → Option Rw} {ib S : Nat} {vb : Nat → Value} {rows : Nat → List Rn} {i : Nat} {vi : Nat → Value} {acs : Nat → List Sp} {l : Lb} (h1 : l.1 ≠ 10) (h2 : l.1 ≠ 14) (h3 : l ≠ (13, 0)) : st6 ρ ib S vb rows i vi acs l = ρ l := by
  simp [st6, h1, h2, h3]
theorem st6_step (ρ : Lb → Option Rw) (ib S : Nat) (vb : Nat → Value) (rows : Nat → List Rn) (i : Nat) (vi : Nat → Value) (acs : Nat → List Sp) (x : Option Rw) (v : Value) (acc : List Sp) (hi : i < S) :
    upd (upd (upd (upd (st6 ρ ib S vb rows i vi acs) (10, i) x) (14, i) (some ⟨v, 33, 2, acc.length, spc acc⟩)) (13, 0) (some (bk ib 51 1 S S ((vals S vi).set i v)))) (10, i) none =
      st6 ρ ib S vb rows (i + 1) (fun j => if j = i then v else vi j) (fun j => if j = i then acc else acs j) := by
  rw [vals_set S vi i v hi]
  funext l
  obtain ⟨a, b⟩ := l
  simp only [upd, st6, Prod.mk.injEq]
  by_cases h10 : a = 10
  · subst h10
    by_cases hb : b = i
    · subst hb; simp; omega
    · have e : (i + 1 ≤ b ∧ b < S) ↔ (i ≤ b ∧ b < S) := by omega
      simp [hb, e]
  by_cases h14 : a = 14
  · subst h14
    by_cases hb : b = i
    · subst hb; simp
    · have e : b < i + 1 ↔ b < i := by omega
      simp [hb, e]
  by_cases h13 : a = 13 ∧ b = 0
  · obtain ⟨rfl, rfl⟩ := h13; simp
  simp [h10, h14, h13]

set_option maxHeartbeats 4000000 in
set_option maxRecDepth 100000 in
theorem loop6 {c0 c2 c3 c4 c5 c6 c7 c8 c9 c10 c11 c12 c13 c14 c15 c16 c17 c18 c19 c20 c21 c22 c23 c24 c25 c26 c27 c28 c29 c30 c31 c32 c33 c34 c35 c36 c37 c38 c39 c40 c41 c42 c43 c44 c45 c46 c47 c48 c49 c50 c51 c52 c53 c54 c55 c56 c57 c58 c59 c60 c61 c62 c63 c64 c65 c66 c67 c68 c69 c70 c71 c72 c73 c74 c75 c76 c77 c78 c79 c80 c81 c82 c83 c84 c85 c86 c87 c88 c89 c90 c91 c92 c93 c94 c95 c96 c97 c98 c99 c100 c101 c102 c103 c104 c105 c106 c107 c108 c109 c110 c111 c112 c113 c114 c115 c116 c117 c118 c119 c120 c121 c122 c123 c124 c125 c126 c127 c128 c129 c130 c131 c132 c133 c134 c135 c136 c137 c138 c139 c140 c141 c142 c143 c144 c145 c146 c147 c148 c149 c150 c151 c152 c153 c154 c155 c156 c157 c158 c159 c160 c161 c162 c163 c164 c165 c166 c167 c168 c169 c170 c171 c172 c173 c174 c175 c176 c177 c178 c179 c180 c181 c182 c183 c184 c185 c186 c187 c188 c189 c190 c191 c192 c193 c194 c195 c196 c197 c198 c199 c200 c201 c205 c206 c207 c208 c209 c210 c211 c212 c213 c214 c215 c216 c217 c218 c219 c220 c221 c222 c223 c224 c225 c226 c227 c228 c229 c230 c231 c232 c233 c234 c235 c236 c237 c238 c239 c240 c241 c242 c243 c244 c245 c246 c247 c248 c249 c250 c251 c252 c253 c254 c255 c256 c257 c258 c259 c260 c261 c262 c263 c264 c265 c266 c267 c268 c269 c270 c271 c272 c273 c274 c275 c276 c277 c278 c279 : Value} (w0 w : World) (B : Nat) (ρ : Lb → Option Rw) (C cb sb ib S : Nat) (A : List Value) (vb : Nat → Value) (rows : Nat → List Rn)
    (hM : Mm w0 w B (st6 ρ ib S vb rows 0 (fun _ => .slice none 0 0) (fun _ => []))) (hS : S ≤ 6) (hA8 : A[8]? = some (.slice (some ⟨ib, 0, none⟩) S S)) (hrow : ∀ k, (rows k).length ≤ 4096 ∧ Fine S (rows k))
    (h0 : ρ (4, 0) = some (bk C 43 10 1 1 A)) (h1 : ρ (4, 1) = some (bk cb 31 1 1 1 [.pointer (some ⟨C, 0, none⟩)])) (h9 : ρ (9, 0) = some (bk sb 30 1 S S (vals S vb))) (Q : Exit → Act → World → Prop)
    (hexit : ∀ (u15 u16 u204 u205 u206 u207 u208 u209 u210 u211 u212 u213 u214 u215 u216 u217 u218 u219 : Value) (vi : Nat → Value) (acs : Nat → List Sp) (w' : World), Mm w0 w' B (st6 ρ ib S vb rows S vi acs) → (∀ k, k < S → Its rows vi acs k) → Q .normal ⟨#[c0, .pointer (some ⟨cb, 0, none⟩), c2, c3, c4, c5, c6, c7, c8, c9, c10, c11, c12, c13, c14, u15, u16, c17, c18, c19, c20, c21, c22, c23, c24, c25, c26, c27, c28, c29, c30, c31, c32, c33, c34, c35, c36, c37, c38, c39, c40, c41, c42, c43, c44, c45, c46, c47, c48, c49, c50, c51, c52, c53, c54, c55, c56, c57, c58, c59, c60, c61, c62, c63, c64, c65, c66, c67, c68, c69, c70, c71, c72, c73, c74, c75, c76, c77, c78, c79, c80, c81, c82, c83, c84, c85, c86, c87, c88, c89, c90, c91, c92, c93, c94, c95, c96, c97, c98, c99, c100, c101, c102, c103, c104, c105, c106, c107, c108, c109, c110, c111, c112, c113, c114, c115, c116, c117, c118, c119, c120, c121, c122, c123, c124, c125, c126, c127, c128, c129, c130, c131, c132, c133, c134, c135, c136, c137, c138, c139, c140, c141, c142, c143, c144, c145, c146, c147, c148, c149, c150, c151, c152, c153, c154, c155, c156, c157, c158, c159, c160, c161, c162, c163, c164, c165, c166, c167, c168, c169, c170, c171, c172, c173, c174, c175, c176, c177, c178, c179, c180, c181, c182, c183, c184, c185, c186, c187, c188, c189, c190, c191, c192, c193, c194, c195, c196, c197, c198, c199, c200, c201, .slice (some ⟨sb, 0, none⟩) S S, .int .i64 (S : Nat), u204, u205, u206, u207, u208, u209, u210, u211, u212, u213, u214, u215, u216, u217, u218, u219, c220, c221, c222, c223, c224, c225, c226, c227, c228, c229, c230, c231, c232, c233, c234, c235, c236, c237, c238, c239, c240, c241, c242, c243, c244, c245, c246, c247, c248, c249, c250, c251, c252, c253, c254, c255, c256, c257, c258, c259, c260, c261, c262, c263, c264, c265, c266, c267, c268, c269, c270, c271, c272, c273, c274, c275, c276, c277, c278, c279], []⟩ w') :
    Code.wp Yba.prog (pick [true, true, true, true, true, true, true, true, false, true] (Yba.f7.body.getD .skip)) Q ⟨#[c0, .pointer (some ⟨cb, 0, none⟩), c2, c3, c4, c5, c6, c7, c8, c9, c10, c11, c12, c13, c14, c15, c16, c17, c18, c19, c20, c21, c22, c23, c24, c25, c26, c27, c28, c29, c30, c31, c32, c33, c34, c35, c36, c37, c38, c39, c40, c41, c42, c43, c44, c45, c46, c47, c48, c49, c50, c51, c52, c53, c54, c55, c56, c57, c58, c59, c60, c61, c62, c63, c64, c65, c66, c67, c68, c69, c70, c71, c72, c73, c74, c75, c76, c77, c78, c79, c80, c81, c82, c83, c84, c85, c86, c87, c88, c89, c90, c91, c92, c93, c94, c95, c96, c97, c98, c99, c100, c101, c102, c103, c104, c105, c106, c107, c108, c109, c110, c111, c112, c113, c114, c115, c116, c117, c118, c119, c120, c121, c122, c123, c124, c125, c126, c127, c128, c129, c130, c131, c132, c133, c134, c135, c136, c137, c138, c139, c140, c141, c142, c143, c144, c145, c146, c147, c148, c149, c150, c151, c152, c153, c154, c155, c156, c157, c158, c159, c160, c161, c162, c163, c164, c165, c166, c167, c168, c169, c170, c171, c172, c173, c174, c175, c176, c177, c178, c179, c180, c181, c182, c183, c184, c185, c186, c187, c188, c189, c190, c191, c192, c193, c194, c195, c196, c197, c198, c199, c200, c201, .slice (some ⟨sb, 0, none⟩) S S, .int .i64 (S : Nat), .int .i64 0, c205, c206, c207, c208, c209, c210, c211, c212, c213, c214, c215, c216, c217, c218, c219, c220, c221, c222, c223, c224, c225, c226, c227, c228, c229, c230, c231, c232, c233, c234, c235, c236, c237, c238, c239, c240, c241, c242, c243, c244, c245, c246, c247, c248, c249, c250, c251, c252, c253, c254, c255, c256, c257, c258, c259, c260, c261, c262, c263, c264, c265, c266, c267, c268, c269, c270, c271, c272, c273, c274, c275, c276, c277, c278, c279], []⟩ w := by
  have HM : Hid (Mm w0 w B (st6 ρ ib S vb rows 0 (fun _ => .slice none 0 0) (fun _ => []))) := hM
  have H0 : Hid (ρ (4, 0) = some (bk C 43 10 1 1 A)) := h0
  have H1 : Hid (ρ (4, 1) = some (bk cb 31 1 1 1 [.pointer (some ⟨C, 0, none⟩)])) := h1
  have H9 : Hid (ρ (9, 0) = some (bk sb 30 1 S S (vals S vb))) := h9
  have HA : Hid (A[8]? = some (.slice (some ⟨ib, 0, none⟩) S S)) := hA8
  have HROW : Hid (∀ k, (rows k).length ≤ 4096 ∧ Fine S (rows k)) := hrow
  have HE : Hid (∀ (u15 u16 u204 u205 u206 u207 u208 u209 u210 u211 u212 u213 u214 u215 u216 u217 u218 u219 : Value) (vi : Nat → Value) (acs : Nat → List Sp) (w' : World), Mm w0 w' B (st6 ρ ib S vb rows S vi acs) → (∀ k, k < S → Its rows vi acs k) → Q .normal ⟨#[c0, .pointer (some ⟨cb, 0, none⟩), c2, c3, c4, c5, c6, c7, c8, c9, c10, c11, c12, c13, c14, u15, u16, c17, c18, c19, c20, c21, c22, c23, c24, c25, c26, c27, c28, c29, c30, c31, c32, c33, c34, c35, c36, c37, c38, c39, c40, c41, c42, c43, c44, c45, c46, c47, c48, c49, c50, c51, c52, c53, c54, c55, c56, c57, c58, c59, c60, c61, c62, c63, c64, c65, c66, c67, c68, c69, c70, c71, c72, c73, c74, c75, c76, c77, c78, c79, c80, c81, c82, c83, c84, c85, c86, c87, c88, c89, c90, c91, c92, c93, c94, c95, c96, c97, c98, c99, c100, c101, c102, c103, c104, c105, c106, c107, c108, c109, c110, c111, c112, c113, c114, c115, c116, c117, c118, c119, c120, c121, c122, c123, c124, c125, c126, c127, c128, c129, c130, c131, c132, c133, c134, c135, c136, c137, c138, c139, c140, c141, c142, c143, c144, c145, c146, c147, c148, c149, c150, c151, c152, c153, c154, c155, c156, c157, c158, c159, c160, c161, c162, c163, c164, c165, c166, c167, c168, c169, c170, c171, c172, c173, c174, c175, c176, c177, c178, c179, c180, c181, c182, c183, c184, c185, c186, c187, c188, c189, c190, c191, c192, c193, c194, c195, c196, c197, c198, c199, c200, c201, .slice (some ⟨sb, 0, none⟩) S S, .int .i64 (S : Nat), u204, u205, u206, u207, u208, u209, u210, u211, u212, u213, u214, u215, u216, u217, u218, u219, c220, c221, c222, c223, c224, c225, c226, c227, c228, c229, c230, c231, c232, c233, c234, c235, c236, c237, c238, c239, c240, c241, c242, c243, c244, c245, c246, c247, c248, c249, c250, c251, c252, c253, c254, c255, c256, c257, c258, c259, c260, c261, c262, c263, c264, c265, c266, c267, c268, c269, c270, c271, c272, c273, c274, c275, c276, c277, c278, c279], []⟩ w') := hexit
  clear hM h0 h1 h9 hA8 hrow hexit
  conv => arg 2; whnf
  go_wp2_with fail
  go_loopw [204] (fun v204 wr => ∃ (i : Nat) (vi : Nat → Value) (acs : Nat → List Sp), v204 = .int .i64 i ∧ i ≤ S ∧ Hid (Mm w0 wr B (st6 ρ ib S vb rows i vi acs)) ∧ Hid (∀ k, k < i → Its rows vi acs k)) (fun v204 _ => S - (RowKit.intOf v204).toNat)
  case atStart => exact ⟨0, _, _, rfl, by omega, HM.out, fun k hk => by omega⟩
  case round =>
    obtain ⟨i, vi, acs, rfl, hi, HW, HI⟩ := hrel
    by_cases hin : i < S
    · have s9 : (st6 ρ ib S vb rows i vi acs) (9, 0) = some (bk sb 30 1 S S (vals S vb)) := (st6_other (by simp) (by simp) (by simp)).trans H9.out
      have k0 := HW.out.cell s9 i (vals_at S vb i hin)
      have lg := HW.out.lt s9
      have hp1 : (0 : Int) ≤ (i : Int) := Int.natCast_nonneg _
      have hp2 : (i : Int) < (S : Int) := by omega
      clear s9
      go_wp2_with fail
      have o10 : (st6 ρ ib S vb rows i vi acs) (10, i) = some ⟨vb i, 29, 4, (rows i).length, fl Rn.enc (rows i)⟩ := by simp [st6, hin]
      have hrow := HROW.out i
      refine (sortRunsOwn B (vb i) (rows i) wr (by omega) (HW.out.mem.own _ _ o10)).mono ?_
      rintro e w1 ⟨rfl, d, hperm, hasc, hown, hgr⟩
      have M1 : Hid (Mm w0 w1 B (upd (st6 ρ ib S vb rows i vi acs) (10, i) (some ⟨vb i, 29, 4, (rows i).length, fl Rn.enc d⟩))) := HW.out.put o10 hgr hown (fun g hg => .inl hg)
      have HPM : Hid _ := hperm
      have HAS : Hid _ := hasc
      clear hown hgr hperm hasc o10
      go_wp2_with fail
      obtain ⟨ρ1, HR1⟩ : ∃ ρ1, Hid (upd (st6 ρ ib S vb rows i vi acs) (10, i) (some ⟨vb i, 29, 4, (rows i).length, fl Rn.enc d⟩) = ρ1) := ⟨_, rfl⟩
      rw [HR1.out] at M1
      have q0 : ρ1 (4, 0) = some (bk C 43 10 1 1 A) := by rw [← HR1.out, upd_other _ _ (by simp), st6_other (by simp) (by simp) (by simp)]; exact H0.out
      have q1 : ρ1 (4, 1) = some (bk cb 31 1 1 1 [.pointer (some ⟨C, 0, none⟩)]) := by rw [← HR1.out, upd_other _ _ (by simp), st6_other (by simp) (by simp) (by simp)]; exact H1.out
      have q10 : ρ1 (10, i) = some ⟨vb i, 29, 4, (rows i).length, fl Rn.enc d⟩ := by rw [← HR1.out, upd_same]
      have q13 : ρ1 (13, 0) = some (bk ib 51 1 S S (vals S vi)) := by rw [← HR1.out, upd_other _ _ (by simp)]; simp [st6]
      have HSS : Hid (∀ (w' : World) (ρ' : Lb → Option Rw), Mm w0 w' B ρ' → ρ' (4, 0) = ρ1 (4, 0) → ρ' (4, 1) = ρ1 (4, 1) → w'.cell? ⟨cb, 0, none⟩ = some (.pointer (some ⟨C, 0, none⟩)) ∧ w'.cell? ⟨C, 8, none⟩ = some (.slice (some ⟨ib, 0, none⟩) S S)) := fun w' ρ' h e0 e1 => ⟨h.cell (e1.trans q1) 0 rfl, h.cell (e0.trans q0) 8 HA.out⟩
      have hdl : d.length = (rows i).length := HPM.out.length_eq
      have OW : Hid (w1.ownsRow B 29 4 (vb i) d.length (fl Rn.enc d)) := by show World.ownsRow _ _ _ _ _ _ _; rw [hdl]; exact M1.out.mem.own _ _ q10
      have HDL : Hid (d.length ≤ 4096) := by show _ ≤ _; rw [hdl]; exact hrow.1
      have HFI : Hid (Fine S d) := fun r hr => hrow.2 r (HPM.out.mem_iff.1 hr)
      have Q10 : Hid _ := q10
      have Q13 : Hid _ := q13
      clear q0 q1 q10 q13 hrow hdl k0 lg
      refine wp_region_late 6 7 (fun w' => w'.cell? ⟨cb, 0, none⟩ = some (.pointer (some ⟨C, 0, none⟩)) ∧ w'.cell? ⟨C, 8, none⟩ = some (.slice (some ⟨ib, 0, none⟩) S S)) (by kernel_rfl) (by kernel_rfl) (HSS.out w1.drew ρ1 M1.out.drew rfl rfl) ?_
      simp only [List.take_succ_cons, List.take_zero, List.drop_succ_cons, List.drop_zero, Nat.reduceSub]
      repeat (refine wpHead_step (v := ?_) (by rfl) (by intro w hSw; go_simp; try with_reducible rfl) ?_; try simp only [Act.put, List.setIfInBounds_toArray, List.set_cons_zero, List.set_cons_succ])
      refine wpHead_nil ?_
      change wpList _ _ _ _ _ w1.drew
      go_wp2_with fail
      refine (mergeOwn B S (vb i) d w1.drew HDL.out OW.out.drew HFI.out HAS.out).mono ?_
      rintro e w2 ⟨v3, acc, rfl, hw3, hbel, hmi, hsm, hnil⟩
      obtain ⟨a3, c3, rfl⟩ := own_form hw3
      have M2 : Hid (Mm w0 w2 B (upd ρ1 (14, i) (some ⟨.slice a3 acc.length c3, 33, 2, acc.length, spc acc⟩))) := M1.out.drew.made (14, i) hbel ⟨.slice a3 acc.length c3, 33, 2, acc.length, spc acc⟩ hw3
      have HIT : Hid (Its rows (fun j => if j = i then (.slice a3 acc.length c3) else vi j) (fun j => if j = i then acc else acs j) i) := ⟨⟨d, HPM.out, by simpa using hmi⟩, by simpa using hsm, by simpa using hnil⟩
      clear hw3 hbel hmi hsm hnil
      go_wp2_with fail
      refine ⟨HSS.out _ _ M2.out (upd_other _ _ (by simp)) (upd_other _ _ (by simp)), ?_⟩
      change wpList _ _ _ _ _ _
      have z13 : upd ρ1 (14, i) (some ⟨.slice a3 acc.length c3, 33, 2, acc.length, spc acc⟩) (13, 0) = _ := (upd_other _ _ (by simp)).trans Q13.out
      have z1 := M2.out.cell z13 i (vals_at S vi i hin)
      have z2 := M2.out.froz z13 i
      have z3 := M2.out.lt z13
      have Z13 : Hid _ := z13
      clear z13
      go_wp2_with fail
      refine NoPanic.normal ?_
      go_wp2_with fail
      go_roundw
      case rel =>
        refine ⟨i + 1, fun j => if j = i then (.slice a3 acc.length c3) else vi j, fun j => if j = i then acc else acs j, by go_num, by omega, ?_, ?_⟩
        · show Mm _ _ _ _
          have h := (M2.out.store Z13.out i (.slice a3 acc.length c3)).drop (10, i)
          rw [← HR1.out, st6_step ρ ib S vb rows i vi acs _ (.slice a3 acc.length c3) acc hin] at h
          exact h
        · intro k hk
          by_cases e : k = i
          · subst e; exact HIT.out
          · have := HI.out k (by omega)
            simpa [Its, e] using this
      case measure => simp [RowKit.intOf]; omega
    · go_wp2_with fail
      obtain rfl : i = S := by omega
      exact HE.out _ _ _ _ _ _ _ _ _ _ _ _ _ _ _ _ _ _ vi acs _ HW.out HI.out

end Go.Proofs.Ybulkebla

