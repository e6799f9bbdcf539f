import Derived.Test.YbulkeblaAI1
/-! index's first loop. -/
namespace Go.Proofs.Ybulkebla
open Go.RowKit Go.Lib
set_option linter.unusedVariables false
set_option linter.unusedSectionVars false
variable [Inhabited Rn] [Inhabited Hs] [Inhabited Sc]
set_option linter.unusedSimpArgs false

theorem map_size {w : World} {mb n : Nat} {D : DataW Value} (h : w.ownsMap Yba.prog 3 Rd mb n D) : Maps.size D ≤ n := by
  obtain ⟨es, clock, _, _, hs, rfl⟩ := h
  have : Maps.size (DataW.map ((es.toList.map (WideElems.rg Yba.prog 3 Rd)).foldr DataW.insert [])) = es.size := by
    show ((es.toList.map (WideElems.rg Yba.prog 3 Rd)).foldr DataW.insert []).length = es.size
    rw [length_sorted]; simp
  omega
theorem flat_congr' {α β : Type} {l : List α} {f g : α → List β} (h : ∀ x ∈ l, f x = g x) : l.flatMap f = l.flatMap g := by
  induction l with
  | nil => rfl
  | cons x l ih => rw [List.flatMap_cons, List.flatMap_cons, h x List.mem_cons_self, ih (fun y hy => h y (List.mem_cons_of_mem _ hy))]
theorem any_congr' {α : Type} {l : List α} {f g : α → Bool} (h : ∀ x ∈ l, f x = g x) : l.any f = l.any g := by
  induction l with
  | nil => rfl
  | cons x l ih => rw [List.any_cons, List.any_cons, h x List.mem_cons_self, ih (fun y hy => h y (List.mem_cons_of_mem _ hy))]
theorem rset {α : Type} (n : Nat) (f : Nat → α) (k : Nat) (v : α) (hk : k < n) : ((List.range n).map f).set k v = (List.range n).map (fun j => if j = k then v else f j) := by
  apply List.ext_getElem?
  intro t
  rw [List.getElem?_set]
  by_cases e : k = t
  · subst e; simp [hk]
  · have e' : ¬ t = k := fun h => e h.symm
    simp only [e, if_false, List.getElem?_map]
    cases h : (List.range n)[t]? with
    | none => rfl
    | some x =>
      have : x = t := by rw [List.getElem?_range (by have := (List.getElem?_eq_some_iff.1 h).1; simpa using this)] at h; exact (Option.some.inj h).symm
      subst this; simp [e']
theorem st1_weak (ρ : Lb → Option Rw) (C cb hb hl qb nb sb P S p : Nat) (A : Nat → Value) (hv : Nat → Value) (rr : Nat → List Rn) (hs : Nat → Int) (byf byf' : Value) (bs : List Hs) (vs : Nat → Value) (secs : Nat → List Sc) (pr : Nat → Bool) (vb vb' vm' : Nat → Value) (rows : Nat → List Rn)
    (d : List Rn) (acc : List Sp) (vsp : Value) (l0 l' : List Sc) (x y : Option Rw) (hp : p < P) (hl' : l'.length = l0.length) (l : Lb) :
    (st1 ρ C cb hb hl qb nb sb P S A hv (fun q => if q = p then d else rr q) (fun q => if q = p then tot acc else hs q) byf' (bs ++ hsp p acc) (fun j => if j = p then vsp else vs j) (fun q => if q = p then l' else secs q) (fun j => pr j || hasId j d) vb' (fun j => rows j ++ sel j d)) l =
      upd (st4 (st3 (st2 (upd (upd (upd (st1 ρ C cb hb hl qb nb sb P S A hv rr hs byf bs vs secs pr vb rows) (4, 2) x) (0, p) (some ⟨hv p, 29, 4, d.length, fl Rn.enc d⟩)) (20, 0) y) C hl P A ((List.range P).map hs) p bs acc acc.length byf') nb sb S (fun j => pr j || hasId j d) vb' (fun j => rows j ++ sel j d) vm' (fun j => sel j d)) qb P vs p vsp l0) (7, p) (some ⟨vsp, 56, 2, l0.length, fl Sc.enc l'⟩) l ∨
    (st1 ρ C cb hb hl qb nb sb P S A hv (fun q => if q = p then d else rr q) (fun q => if q = p then tot acc else hs q) byf' (bs ++ hsp p acc) (fun j => if j = p then vsp else vs j) (fun q => if q = p then l' else secs q) (fun j => pr j || hasId j d) vb' (fun j => rows j ++ sel j d)) l = none := by
  obtain ⟨a, b⟩ := l
  by_cases h4 : a = 4
  · subst h4
    by_cases hb0 : b = 0
    · subst hb0; left; simp [st1, st2, st3, st4, upd]
    by_cases hb1 : b = 1
    · subst hb1; left; simp [st1, st2, st3, st4, upd]
    · right; simp [st1, hb0, hb1]
  by_cases h20 : a = 20
  · subst h20; right; simp [st1]
  by_cases h11 : a = 11
  · subst h11; right; simp [st1]
  left
  by_cases h0 : a = 0
  · subst h0
    by_cases hbp : b = p
    · subst hbp; simp [st1, st2, st3, st4, upd, hp]
    · simp [st1, st2, st3, st4, upd, hbp]
  by_cases h7 : a = 7
  · subst h7
    by_cases hbp : b = p
    · subst hbp; simp [st1, st2, st3, st4, upd, hp, hl']
    · simp [st1, st2, st3, st4, upd, hbp]
  by_cases h10 : a = 10
  · subst h10; simp [st1, st2, st3, st4, upd]
  by_cases h5 : a = 5 ∧ b = 0
  · obtain ⟨rfl, rfl⟩ := h5
    have e := rset P hs p (tot acc) hp
    simp [st1, st2, st3, st4, upd, e]
  by_cases h6 : a = 6 ∧ b = 0
  · obtain ⟨rfl, rfl⟩ := h6; simp [st1, st2, st3, st4, upd]
  by_cases h8 : a = 8 ∧ b = 0
  · obtain ⟨rfl, rfl⟩ := h8; simp [st1, st2, st3, st4, upd]
  by_cases h9 : a = 9 ∧ b = 0
  · obtain ⟨rfl, rfl⟩ := h9; simp [st1, st2, st3, st4, upd]
  by_cases h12 : a = 12 ∧ b = 0
  · obtain ⟨rfl, rfl⟩ := h12; simp [st1, st2, st3, st4, upd]
  by_cases h1 : a = 1 ∧ b = 0
  · obtain ⟨rfl, rfl⟩ := h1; simp [st1, st2, st3, st4, upd]
  simp [st1, st2, st3, st4, upd, h0, h1, h4, h5, h6, h7, h8, h9, h10, h11, h12, h20]
theorem inv1_step {P p : Nat} {runs rr : Nat → List Rn} {hs : Nat → Int} {acs : Nat → List Sp} {bs : List Hs} {vs : Nat → Value} {secs : Nat → List Sc} {pr : Nat → Bool} {rows : Nat → List Rn} (h : Inv1 P p runs rr hs acs bs vs secs pr rows)
    (d : List Rn) (acc : List Sp) (vsp : Value) (l l' : List Sc) (h1 : d.Perm (rr p)) (h2 : Asc1 d) (h3 : MergeInv (rsp d) acc) (h4 : Small acc) (h5 : Secs (fun j => hasId j d) (fun _ => false) (fun k => sel k d) l) (h6 : l'.Perm l) (h7 : AscR l') (h8 : l = [] → vsp = .slice none 0 0) :
    Inv1 P (p + 1) runs (fun q => if q = p then d else rr q) (fun q => if q = p then tot acc else hs q) (fun q => if q = p then acc else acs q) (bs ++ hsp p acc) (fun j => if j = p then vsp else vs j) (fun q => if q = p then l' else secs q) (fun j => pr j || hasId j d) (fun j => rows j ++ sel j d) := by
  have ne : ∀ q, q < p → ¬ q = p := fun q hq => by omega
  refine ⟨fun q => ?_, fun q hq => ?_, fun q hq => ?_, ?_, fun j => ?_, fun k => ?_⟩
  · by_cases e : q = p
    · subst e; simp only [if_true]; exact h1.trans (h.perm q)
    · simp only [e, if_false]; exact h.perm q
  · by_cases e : q = p
    · subst e
      exact ⟨by simpa using h2, by simpa using h3, by simpa using h4, by simp, by simpa using h5.perm h6, by simpa using h7, by simp only [if_true]; exact fun e => h8 (by have := h6.length_eq; rw [e] at this; exact List.length_eq_zero_iff.1 this.symm)⟩
    · have hd := h.done q (by omega)
      exact ⟨by simpa [e] using hd.asc, by simpa [e] using hd.mi, by simpa [e] using hd.sm, by simpa [e] using hd.held, by simpa [e] using hd.sec, by simpa [e] using hd.ord, by simpa [e] using hd.nil⟩
  · have e : ¬ q = p := by omega
    simpa [e] using h.todo q (by omega)
  · rw [List.range_succ, List.flatMap_append, h.bs]
    congr 1
    · apply flat_congr'
      intro q hq
      simp [ne q (List.mem_range.1 hq)]
    · simp
  · rw [List.range_succ, List.any_append, h.pr j]
    congr 1
    · apply any_congr'
      intro q hq
      simp [ne q (List.mem_range.1 hq)]
    · simp
  · rw [List.range_succ, List.flatMap_append, h.rows k]
    congr 1
    · apply flat_congr'
      intro q hq
      simp [ne q (List.mem_range.1 hq)]
    · simp
theorem nodup_len : ∀ (n : Nat) (l : List Nat), l.Nodup → (∀ x ∈ l, x < n) → l.length ≤ n
  | 0, l, _, h => by
    cases l with
    | nil => simp
    | cons x l => exact absurd (h x List.mem_cons_self) (by omega)
  | n + 1, l, hn, h => by
    have h1 := nodup_len n (l.filter (fun x => decide (x ≠ n))) (hn.filter _) (fun x hx => by
      have h2 := List.mem_filter.1 hx
      have := h x h2.1
      simp only [decide_eq_true_eq] at h2
      omega)
    have h2 : l.length ≤ (l.filter (fun x => decide (x ≠ n))).length + 1 := by
      clear h1 h
      induction l with
      | nil => simp
      | cons x l ih =>
        rw [List.nodup_cons] at hn
        by_cases e : x = n
        · subst e
          have : l.filter (fun y => decide (y ≠ x)) = l := List.filter_eq_self.2 (fun y hy => by simp only [decide_eq_true_eq]; exact fun e => hn.1 (e ▸ hy))
          simp only [List.filter_cons, ne_eq, not_true_eq_false, decide_false, Bool.false_eq_true, if_false, List.length_cons] at this ⊢
          rw [this]; exact Nat.le_refl _
        · have := ih hn.2
          simp only [List.filter_cons, ne_eq, e, not_false_eq_true, decide_true, if_true, List.length_cons] at this ⊢
          omega
    omega
theorem secs_len {pr lf : Nat → Bool} {mrows : Nat → List Rn} {l : List Sc} (h : Secs pr lf mrows l) : l.length ≤ 1001 := by
  have := nodup_len 1001 (l.map Sc.id) h.nd (fun x hx => by
    obtain ⟨c, hc, rfl⟩ := List.mem_map.1 hx
    have := h.low c hc
    omega)
  simpa using this

set_option maxHeartbeats 4000000 in
set_option maxRecDepth 100000 in
theorem loop1 {c0 c3 c4 c5 c6 c7 c8 c9 c10 c11 c12 c13 c14 c15 c16 c17 c18 c19 c20 c21 c22 c23 c24 c25 c26 c27 c28 c29 c30 c31 c32 c33 c34 c35 c36 c37 c38 c39 c40 c41 c42 c43 c44 c45 c46 c47 c48 c49 c50 c51 c52 c53 c54 c55 c59 c60 c61 c62 c63 c64 c65 c66 c67 c68 c69 c70 c71 c72 c73 c74 c75 c76 c77 c78 c79 c80 c81 c82 c83 c84 c85 c86 c87 c88 c89 c90 c91 c92 c93 c94 c95 c96 c97 c98 c99 c100 c101 c102 c103 c104 c105 c106 c107 c108 c109 c110 c111 c112 c113 c114 c115 c116 c117 c118 c119 c120 c121 c122 c123 c124 c125 c126 c127 c128 c129 c130 c131 c132 c133 c134 c135 c136 c137 c138 c139 c140 c141 c142 c143 c144 c145 c146 c147 c148 c149 c150 c151 c152 c153 c154 c155 c156 c157 c158 c159 c160 c161 c162 c163 c164 c165 c166 c167 c168 c169 c170 c171 c172 c173 c174 c175 c176 c177 c178 c179 c180 c181 c182 c183 c184 c185 c186 c187 c188 c189 c190 c191 c192 c193 c194 c195 c196 c197 c198 c199 c200 c201 c202 c203 c204 c205 c206 c207 c208 c209 c210 c211 c212 c213 c214 c215 c216 c217 c218 c219 c220 c221 c222 c223 c224 c225 c226 c227 c228 c229 c230 c231 c232 c233 c234 c235 c236 c237 c238 c239 c240 c241 c242 c243 c244 c245 c246 c247 c248 c249 c250 c251 c252 c253 c254 c255 c256 c257 c258 c259 c260 c261 c262 c263 c264 c265 c266 c267 c268 c269 c270 c271 c272 c273 c274 c275 c276 c277 c278 c279 : Value} (w0 w : World) (B : Nat) (ρ : Lb → Option Rw) (C cb hb hl qb nb sb P S : Nat) (A : Nat → Value) (hv : Nat → Value) (runs : Nat → List Rn) (byf0 : Value)
    (hM : Mm w0 w B (st1 ρ C cb hb hl qb nb sb P S A hv runs (fun _ => 0) byf0 [] (fun _ => .slice none 0 0) (fun _ => []) (fun _ => false) (fun _ => .slice none 0 0) (fun _ => []))) (hP : P ≤ 6) (hS : S ≤ 6)
    (hA4 : A 4 = .slice (some ⟨hl, 0, none⟩) P P) (hA7 : A 7 = .slice (some ⟨qb, 0, none⟩) P P) (hA9 : A 9 = .slice (some ⟨nb, 0, none⟩) S S) (hF : ∀ q, Fine S (runs q)) (hT : ((List.range P).flatMap runs).length ≤ 4096) (Q : Exit → Act → World → Prop)
    (hexit : ∀ (u3 u4 u6 u7 u9 u10 u11 u12 u14 u58 u59 u60 u61 u62 u63 u64 u65 u66 u67 u68 u69 u70 u71 u72 u73 u74 u75 u76 u77 u78 u79 u80 u81 u82 u83 u84 u85 u86 u87 u88 u89 u90 u91 u92 u93 u94 u95 u96 u97 u98 u99 u100 u101 u102 u103 u104 u105 u106 u107 u108 u109 u110 u111 u112 u113 u114 u115 u116 u117 u118 u119 u120 u121 u122 u123 u124 u125 u126 u127 u128 u129 u130 u131 u132 u133 u134 u135 u136 u137 u138 u139 u140 u141 u142 u143 u144 u145 u146 u147 u148 u149 u150 u151 u152 u153 u154 u155 u156 u157 u158 u159 u160 u161 u162 u163 u164 u165 u166 u167 u168 u169 u170 u171 u172 u173 u174 u175 u176 u177 u178 u179 u180 u181 u182 u183 u184 u185 u186 u187 u188 u189 u190 u191 u192 u193 : Value) (rr : Nat → List Rn) (hs : Nat → Int) (acs : Nat → List Sp) (byf : Value) (bs : List Hs) (vs : Nat → Value) (secs : Nat → List Sc) (pr : Nat → Bool) (vb : Nat → Value) (rows : Nat → List Rn) (w' : World), Mm w0 w' B (st1 ρ C cb hb hl qb nb sb P S A hv rr hs byf bs vs secs pr vb rows) → Inv1 P P runs rr hs acs bs vs secs pr rows → Q .normal ⟨#[c0, .pointer (some ⟨cb, 0, none⟩), .slice (some ⟨sb, 0, none⟩) S S, u3, u4, c5, u6, u7, c8, u9, u10, u11, u12, c13, u14, c15, c16, c17, c18, c19, c20, c21, c22, c23, c24, c25, c26, c27, c28, c29, c30, c31, c32, c33, c34, c35, c36, c37, c38, c39, c40, c41, c42, c43, c44, c45, c46, c47, c48, c49, c50, c51, c52, c53, c54, c55, .slice (some ⟨hb, 0, none⟩) P P, .int .i64 (P : Nat), u58, u59, u60, u61, u62, u63, u64, u65, u66, u67, u68, u69, u70, u71, u72, u73, u74, u75, u76, u77, u78, u79, u80, u81, u82, u83, u84, u85, u86, u87, u88, u89, u90, u91, u92, u93, u94, u95, u96, u97, u98, u99, u100, u101, u102, u103, u104, u105, u106, u107, u108, u109, u110, u111, u112, u113, u114, u115, u116, u117, u118, u119, u120, u121, u122, u123, u124, u125, u126, u127, u128, u129, u130, u131, u132, u133, u134, u135, u136, u137, u138, u139, u140, u141, u142, u143, u144, u145, u146, u147, u148, u149, u150, u151, u152, u153, u154, u155, u156, u157, u158, u159, u160, u161, u162, u163, u164, u165, u166, u167, u168, u169, u170, u171, u172, u173, u174, u175, u176, u177, u178, u179, u180, u181, u182, u183, u184, u185, u186, u187, u188, u189, u190, u191, u192, u193, c194, c195, c196, c197, c198, c199, c200, c201, c202, c203, c204, c205, c206, c207, c208, c209, c210, c211, c212, c213, c214, c215, c216, c217, c218, c219, c220, c221, c222, c223, c224, c225, c226, c227, c228, c229, c230, c231, c232, c233, c234, c235, c236, c237, c238, c239, c240, c241, c242, c243, c244, c245, c246, c247, c248, c249, c250, c251, c252, c253, c254, c255, c256, c257, c258, c259, c260, c261, c262, c263, c264, c265, c266, c267, c268, c269, c270, c271, c272, c273, c274, c275, c276, c277, c278, c279], []⟩ w') :
    Code.wp Yba.prog (pick [true, true, true, true, true, true, false, true] (Yba.f7.body.getD .skip)) Q ⟨#[c0, .pointer (some ⟨cb, 0, none⟩), .slice (some ⟨sb, 0, none⟩) S S, c3, c4, c5, c6, c7, c8, c9, c10, c11, c12, c13, c14, c15, c16, c17, c18, c19, c20, c21, c22, c23, c24, c25, c26, c27, c28, c29, c30, c31, c32, c33, c34, c35, c36, c37, c38, c39, c40, c41, c42, c43, c44, c45, c46, c47, c48, c49, c50, c51, c52, c53, c54, c55, .slice (some ⟨hb, 0, none⟩) P P, .int .i64 (P : Nat), .int .i64 0, c59, c60, c61, c62, c63, c64, c65, c66, c67, c68, c69, c70, c71, c72, c73, c74, c75, c76, c77, c78, c79, c80, c81, c82, c83, c84, c85, c86, c87, c88, c89, c90, c91, c92, c93, c94, c95, c96, c97, c98, c99, c100, c101, c102, c103, c104, c105, c106, c107, c108, c109, c110, c111, c112, c113, c114, c115, c116, c117, c118, c119, c120, c121, c122, c123, c124, c125, c126, c127, c128, c129, c130, c131, c132, c133, c134, c135, c136, c137, c138, c139, c140, c141, c142, c143, c144, c145, c146, c147, c148, c149, c150, c151, c152, c153, c154, c155, c156, c157, c158, c159, c160, c161, c162, c163, c164, c165, c166, c167, c168, c169, c170, c171, c172, c173, c174, c175, c176, c177, c178, c179, c180, c181, c182, c183, c184, c185, c186, c187, c188, c189, c190, c191, c192, c193, c194, c195, c196, c197, c198, c199, c200, c201, c202, c203, c204, c205, c206, c207, c208, c209, c210, c211, c212, c213, c214, c215, c216, c217, c218, c219, c220, c221, c222, c223, c224, c225, c226, c227, c228, c229, c230, c231, c232, c233, c234, c235, c236, c237, c238, c239, c240, c241, c242, c243, c244, c245, c246, c247, c248, c249, c250, c251, c252, c253, c254, c255, c256, c257, c258, c259, c260, c261, c262, c263, c264, c265, c266, c267, c268, c269, c270, c271, c272, c273, c274, c275, c276, c277, c278, c279], []⟩ w := by
  have HM : Hid (Mm w0 w B (st1 ρ C cb hb hl qb nb sb P S A hv runs (fun _ => 0) byf0 [] (fun _ => .slice none 0 0) (fun _ => []) (fun _ => false) (fun _ => .slice none 0 0) (fun _ => []))) := hM
  have HA4 : Hid (A 4 = .slice (some ⟨hl, 0, none⟩) P P) := hA4
  have HA7 : Hid (A 7 = .slice (some ⟨qb, 0, none⟩) P P) := hA7
  have HA9 : Hid (A 9 = .slice (some ⟨nb, 0, none⟩) S S) := hA9
  have HF : Hid (∀ q, Fine S (runs q)) := hF
  have HT : Hid (((List.range P).flatMap runs).length ≤ 4096) := hT
  have HE : Hid (∀ (u3 u4 u6 u7 u9 u10 u11 u12 u14 u58 u59 u60 u61 u62 u63 u64 u65 u66 u67 u68 u69 u70 u71 u72 u73 u74 u75 u76 u77 u78 u79 u80 u81 u82 u83 u84 u85 u86 u87 u88 u89 u90 u91 u92 u93 u94 u95 u96 u97 u98 u99 u100 u101 u102 u103 u104 u105 u106 u107 u108 u109 u110 u111 u112 u113 u114 u115 u116 u117 u118 u119 u120 u121 u122 u123 u124 u125 u126 u127 u128 u129 u130 u131 u132 u133 u134 u135 u136 u137 u138 u139 u140 u141 u142 u143 u144 u145 u146 u147 u148 u149 u150 u151 u152 u153 u154 u155 u156 u157 u158 u159 u160 u161 u162 u163 u164 u165 u166 u167 u168 u169 u170 u171 u172 u173 u174 u175 u176 u177 u178 u179 u180 u181 u182 u183 u184 u185 u186 u187 u188 u189 u190 u191 u192 u193 : Value) (rr : Nat → List Rn) (hs : Nat → Int) (acs : Nat → List Sp) (byf : Value) (bs : List Hs) (vs : Nat → Value) (secs : Nat → List Sc) (pr : Nat → Bool) (vb : Nat → Value) (rows : Nat → List Rn) (w' : World), Mm w0 w' B (st1 ρ C cb hb hl qb nb sb P S A hv rr hs byf bs vs secs pr vb rows) → Inv1 P P runs rr hs acs bs vs secs pr rows → Q .normal ⟨#[c0, .pointer (some ⟨cb, 0, none⟩), .slice (some ⟨sb, 0, none⟩) S S, u3, u4, c5, u6, u7, c8, u9, u10, u11, u12, c13, u14, c15, c16, c17, c18, c19, c20, c21, c22, c23, c24, c25, c26, c27, c28, c29, c30, c31, c32, c33, c34, c35, c36, c37, c38, c39, c40, c41, c42, c43, c44, c45, c46, c47, c48, c49, c50, c51, c52, c53, c54, c55, .slice (some ⟨hb, 0, none⟩) P P, .int .i64 (P : Nat), u58, u59, u60, u61, u62, u63, u64, u65, u66, u67, u68, u69, u70, u71, u72, u73, u74, u75, u76, u77, u78, u79, u80, u81, u82, u83, u84, u85, u86, u87, u88, u89, u90, u91, u92, u93, u94, u95, u96, u97, u98, u99, u100, u101, u102, u103, u104, u105, u106, u107, u108, u109, u110, u111, u112, u113, u114, u115, u116, u117, u118, u119, u120, u121, u122, u123, u124, u125, u126, u127, u128, u129, u130, u131, u132, u133, u134, u135, u136, u137, u138, u139, u140, u141, u142, u143, u144, u145, u146, u147, u148, u149, u150, u151, u152, u153, u154, u155, u156, u157, u158, u159, u160, u161, u162, u163, u164, u165, u166, u167, u168, u169, u170, u171, u172, u173, u174, u175, u176, u177, u178, u179, u180, u181, u182, u183, u184, u185, u186, u187, u188, u189, u190, u191, u192, u193, c194, c195, c196, c197, c198, c199, c200, c201, c202, c203, c204, c205, c206, c207, c208, c209, c210, c211, c212, c213, c214, c215, c216, c217, c218, c219, c220, c221, c222, c223, c224, c225, c226, c227, c228, c229, c230, c231, c232, c233, c234, c235, c236, c237, c238, c239, c240, c241, c242, c243, c244, c245, c246, c247, c248, c249, c250, c251, c252, c253, c254, c255, c256, c257, c258, c259, c260, c261, c262, c263, c264, c265, c266, c267, c268, c269, c270, c271, c272, c273, c274, c275, c276, c277, c278, c279], []⟩ w') := hexit
  clear hM hA4 hA7 hA9 hF hT hexit
  have hmm := @run_makeMap Yba.prog
  conv => arg 2; whnf
  go_wp2_with fail
  go_loopw [58] (fun v58 wr => ∃ (p : Nat) (rr : Nat → List Rn) (hs : Nat → Int) (acs : Nat → List Sp) (byf : Value) (bs : List Hs) (vs : Nat → Value) (secs : Nat → List Sc) (pr : Nat → Bool) (vb : Nat → Value) (rows : Nat → List Rn), v58 = .int .i64 p ∧ p ≤ P ∧ Hid (Mm w0 wr B (st1 ρ C cb hb hl qb nb sb P S A hv rr hs byf bs vs secs pr vb rows)) ∧ Hid (Inv1 P p runs rr hs acs bs vs secs pr rows)) (fun v58 _ => P - (RowKit.intOf v58).toNat)
  case atStart =>
    refine ⟨0, runs, fun _ => 0, fun _ => [], byf0, [], fun _ => .slice none 0 0, fun _ => [], fun _ => false, fun _ => .slice none 0 0, fun _ => [], rfl, by omega, HM.out, ?_⟩
    exact ⟨fun q => List.Perm.refl _, fun q h => by omega, fun q _ => ⟨rfl, rfl, rfl⟩, by simp, fun j => by simp, fun k => by simp⟩
  case round =>
    obtain ⟨p, rr, hs, acs, byf, bs, vs, secs, pr, vb, rows, rfl, hi, HW, HI⟩ := hrel
    by_cases hin : p < P
    · obtain ⟨R0, HR0⟩ : ∃ R0, Hid ((st1 ρ C cb hb hl qb nb sb P S A hv rr hs byf bs vs secs pr vb rows) = R0) := ⟨_, rfl⟩
      rw [HR0.out] at HW
      have s1 : R0 (1, 0) = some (bk hb 30 1 P P (vals P hv)) := by rw [← HR0.out]; simp [st1]
      have s0 : R0 (0, p) = some ⟨hv p, 29, 4, (rr p).length, fl Rn.enc (rr p)⟩ := by rw [← HR0.out]; simp [st1, hin]
      have k0 := HW.out.cell s1 p (vals_at P hv p hin)
      have lg := HW.out.lt s1
      obtain ⟨a, c, hform⟩ := own_form (HW.out.mem.own _ _ s0)
      simp only at hform
      obtain ⟨n, hn⟩ : ∃ n, (rr p).length = n := ⟨_, rfl⟩
      rw [hn] at hform
      rw [hform] at k0
      have S0 : Hid (R0 (0, p) = some ⟨.slice a n c, 29, 4, (rr p).length, fl Rn.enc (rr p)⟩) := by show _ = _; rw [s0, hform]
      have HN : Hid (n = (rr p).length) := hn.symm
      have HFM : Hid (hv p = .slice a n c) := hform
      have hp1 : (0 : Int) ≤ (p : Int) := Int.natCast_nonneg _
      have hp2 : (p : Int) < (P : Int) := by omega
      clear s1 s0 hform hn
      go_wp2_with fail
      obtain ⟨pb, HPB⟩ : ∃ pb, Hid (wr.heap.size = pb) := ⟨_, rfl⟩
      rw [HPB.out]
      have M1 : Hid (Mm w0 (wr.alloc (.cells #[.int .i64 p] 3)) B (upd R0 (4, 2) (some (bk pb 3 1 1 1 [.int .i64 p])))) := HW.out.box (4, 2) #[.int .i64 p] 3 1 1 (by decide) rfl HPB.out
      generalize wr.alloc (.cells #[.int .i64 p] 3) = w1 at M1 ⊢
      have o0 : upd R0 (4, 2) (some (bk pb 3 1 1 1 [.int .i64 p])) (0, p) = some ⟨.slice a n c, 29, 4, (rr p).length, fl Rn.enc (rr p)⟩ := by rw [upd_other _ _ (by simp)]; exact S0.out
      have hrl : (rr p).length ≤ 4096 := by rw [(HI.out.perm p).length_eq]; exact run_len HT.out p hin
      refine (sortRunsOwn B (.slice a n c) (rr p) w1 (by omega) (M1.out.mem.own _ _ o0)).mono ?_
      rintro e w2 ⟨rfl, d, hperm, hasc, hown, hgr⟩
      have hdl : d.length = (rr p).length := hperm.length_eq
      have hnd : n = d.length := by rw [hdl]; exact HN.out
      subst hnd
      have M2 : Hid (Mm w0 w2 B (upd (upd R0 (4, 2) (some (bk pb 3 1 1 1 [.int .i64 p]))) (0, p) (some ⟨.slice a d.length c, 29, 4, d.length, fl Rn.enc d⟩))) := by
        show Mm _ _ _ _
        rw [← hdl] at hown
        exact M1.out.put o0 hgr hown (fun g hg => .inl hg)
      have HPM : Hid (d.Perm (rr p)) := hperm
      have HAS : Hid (Asc1 d) := hasc
      have HDL : Hid (d.length ≤ 4096) := by show _ ≤ _; rw [hdl]; exact hrl
      have HFD : Hid (Fine S d) := fun r hr => HF.out p r ((HI.out.perm p).mem_iff.1 (hperm.mem_iff.1 hr))
      clear hown hgr hperm hasc hdl hrl o0 k0 lg
      go_wp2_with fail
      refine (mergeOwn B S (.slice a d.length c) d w2 HDL.out (M2.out.mem.own _ _ (upd_same _ _ _)) HFD.out HAS.out).mono ?_
      rintro e w3 ⟨v3, acc, rfl, hw3, hbel, hmi, hsm, hnil⟩
      obtain ⟨a3, c3, rfl⟩ := own_form hw3
      obtain ⟨ρ2, HR2⟩ : ∃ ρ2, Hid (upd (upd R0 (4, 2) (some (bk pb 3 1 1 1 [.int .i64 p]))) (0, p) (some ⟨.slice a d.length c, 29, 4, d.length, fl Rn.enc d⟩) = ρ2) := ⟨_, rfl⟩
      rw [HR2.out] at M2
      have M3 : Hid (Mm w0 w3 B (upd ρ2 (20, 0) (some ⟨.slice a3 acc.length c3, 33, 2, acc.length, spc acc⟩))) := M2.out.made (20, 0) hbel ⟨.slice a3 acc.length c3, 33, 2, acc.length, spc acc⟩ hw3
      have HMI : Hid _ := hmi
      have HSM : Hid _ := hsm
      clear hw3 hbel hmi hsm hnil
      go_upto_block 2 with fail
      obtain ⟨ρ3, HR3⟩ : ∃ ρ3, Hid (upd ρ2 (20, 0) (some ⟨.slice a3 acc.length c3, 33, 2, acc.length, spc acc⟩) = ρ3) := ⟨_, rfl⟩
      rw [HR3.out] at M3
      have b0 : ρ3 (4, 0) = some (bk C 43 10 1 1 (cat5 A byf)) := by rw [← HR3.out, ← HR2.out, ← HR0.out]; simp [upd, st1]
      have b1 : ρ3 (4, 1) = some (bk cb 31 1 1 1 [.pointer (some ⟨C, 0, none⟩)]) := by rw [← HR3.out, ← HR2.out, ← HR0.out]; simp [upd, st1]
      have b2 : ρ3 (4, 2) = some (bk pb 3 1 1 1 [.int .i64 p]) := by rw [← HR3.out, ← HR2.out, ← HR0.out]; simp [upd]
      have b5 : ρ3 (5, 0) = some (bk hl 2 1 P P (ints ((List.range P).map hs))) := by rw [← HR3.out, ← HR2.out, ← HR0.out]; simp [upd, st1]
      have b12 : ρ3 (12, 0) = some ⟨byf, 35, 3, bs.length, fl Hs.enc bs⟩ := by rw [← HR3.out, ← HR2.out, ← HR0.out]; simp [upd, st1]
      have b20 : ρ3 (20, 0) = some ⟨.slice a3 acc.length c3, 33, 2, acc.length, spc acc⟩ := by rw [← HR3.out, upd_same]
      have hbl : bs.length ≤ 100000 := by have := HI.out.bs_len; omega
      refine loop2 w0 w3 B ρ3 C cb pb hl P p A ((List.range P).map hs) bs byf (.slice a3 acc.length c3) acc M3.out HSM.out HA4.out hin hP (by simp) (by simp [hin, (HI.out.todo p (Nat.le_refl _)).1]) hbl b0 b1 b2 b5 b12 b20 _ ?_
      clear b0 b1 b2 b5 b12 b20 hbl
      intro x6 x68 x69 x70 x71 x72 x73 x74 x75 x76 x77 x78 x79 x80 x81 x82 x83 x84 x85 x86 x87 x88 x89 x90 x91 x92 x93 x94 x95 x96 x97 x98 x99 x100 byf' w4 hm4
      have M4 : Hid (Mm w0 w4 B (st2 ρ3 C hl P A ((List.range P).map hs) p bs acc acc.length byf')) := hm4
      clear hm4
      go_upto_block 4 with fail
      obtain ⟨mb, HMB⟩ : ∃ mb, Hid (w4.heap.size = mb) := ⟨_, rfl⟩
      have MP0 : Hid (Mp (w4.alloc (.map #[] 0)) mb 0 (.map []) (fun _ => .slice none 0 0) (fun _ => false)) := by show Mp _ _ _ _ _ _; rw [← HMB.out]; exact Mp.made w4
      have HBM : Hid (B ≤ mb) := by show _ ≤ _; rw [← HMB.out]; exact M4.out.le
      rw [HMB.out]
      have M4a : Hid (Mm w0 (w4.alloc (.map #[] 0)) B (st2 ρ3 C hl P A ((List.range P).map hs) p bs acc acc.length byf')) := M4.out.alloc _
      generalize w4.alloc (.map #[] 0) = w5 at M4a MP0 ⊢
      obtain ⟨ρ4, HR4⟩ : ∃ ρ4, Hid (st2 ρ3 C hl P A ((List.range P).map hs) p bs acc acc.length byf' = ρ4) := ⟨_, rfl⟩
      rw [HR4.out] at M4a
      have b0 : ρ4 (4, 0) = some (bk C 43 10 1 1 (cat5 A byf')) := by rw [← HR4.out]; simp [st2, upd]
      have b1 : ρ4 (4, 1) = some (bk cb 31 1 1 1 [.pointer (some ⟨C, 0, none⟩)]) := by rw [← HR4.out, ← HR3.out, ← HR2.out, ← HR0.out]; simp [st2, upd, st1]
      have b2 : ρ4 (4, 2) = some (bk pb 3 1 1 1 [.int .i64 p]) := by rw [← HR4.out, ← HR3.out, ← HR2.out]; simp [st2, upd]
      have bp : ρ4 (0, p) = some ⟨.slice a d.length c, 29, 4, d.length, fl Rn.enc d⟩ := by rw [← HR4.out, ← HR3.out, ← HR2.out]; simp [st2, upd]
      have b6 : ρ4 (6, 0) = some (bk qb 54 1 P P (vals P vs)) := by rw [← HR4.out, ← HR3.out, ← HR2.out, ← HR0.out]; simp [st2, upd, st1]
      have b7 : ρ4 (7, p) = some ⟨.slice none 0 0, 56, 2, 0, []⟩ := by rw [← HR4.out, ← HR3.out, ← HR2.out, ← HR0.out]; simp [st2, upd, st1, hin, (HI.out.todo p (Nat.le_refl _)).2.1, (HI.out.todo p (Nat.le_refl _)).2.2, fl]
      have b8 : ρ4 (8, 0) = some (bk nb 9 1 S S (strs S pr)) := by rw [← HR4.out, ← HR3.out, ← HR2.out, ← HR0.out]; simp [st2, upd, st1]
      have b9 : ρ4 (9, 0) = some (bk sb 30 1 S S (vals S vb)) := by rw [← HR4.out, ← HR3.out, ← HR2.out, ← HR0.out]; simp [st2, upd, st1]
      have b10 : ∀ k, ρ4 (10, k) = if k < S then some ⟨vb k, 29, 4, (rows k).length, fl Rn.enc (rows k)⟩ else none := fun k => by rw [← HR4.out, ← HR3.out, ← HR2.out, ← HR0.out]; simp [st2, upd, st1]
      have M5 : Hid (Mm w0 w5 B (st3 ρ4 nb sb S pr vb rows (fun _ => .slice none 0 0) (fun _ => []))) := by
        refine M4a.out.weak (fun l => ?_)
        obtain ⟨x, y⟩ := l
        by_cases e10 : x = 10
        · subst e10; left; rw [b10 y]; simp [st3]
        by_cases e11 : x = 11
        · subst e11
          by_cases ey : y < S
          · right; right; exact ⟨29, 4, by simp [st3, ey, fl]⟩
          · right; left; simp [st3, ey]
        by_cases e8 : x = 8 ∧ y = 0
        · obtain ⟨rfl, rfl⟩ := e8; left; rw [b8]; simp [st3]
        by_cases e9 : x = 9 ∧ y = 0
        · obtain ⟨rfl, rfl⟩ := e9; left; rw [b9]; simp [st3]
        by_cases e4 : x = 4 ∧ y = 4
        · obtain ⟨rfl, rfl⟩ := e4; right; left; simp [st3]
        left
        exact st3_other e10 e11 (by simp; exact fun h1 h2 => e8 ⟨h1, h2⟩) (by simp; exact fun h1 h2 => e9 ⟨h1, h2⟩) (by simp; exact fun h1 h2 => e4 ⟨h1, h2⟩)
      have B2 : Hid _ := b2
      have B6 : Hid _ := b6
      have B7 : Hid _ := b7
      refine loop3 w0 w5 B ρ4 C cb nb sb mb S p (cat5 A byf') (.slice a d.length c) d pr vb (fun _ => .slice none 0 0) rows (.map []) M5.out MP0.out HBM.out hS (by rw [← HA9.out]; rfl) HDL.out (fun r hr => (HFD.out r hr).1) (fun j => by have := HI.out.rows_len hi HT.out j; omega) b0 b1 bp _ ?_
      have B0 : Hid _ := b0
      have B1 : Hid _ := b1
      clear b0 b1 b2 bp b6 b7 b8 b9 b10
      intro x9 x104 x105 x106 x107 x108 x109 x110 x111 x112 x113 x114 x115 x116 x117 x118 x119 x120 x121 x122 x123 x124 x125 x126 x127 x128 x129 x130 x131 x132 x133 x134 x135 x136 x137 x138 x139 vb' vm' D' w6 hm6 hp6
      obtain ⟨ρ5, HR5⟩ : ∃ ρ5, Hid (st3 ρ4 nb sb S (fun j => pr j || hasId j d) vb' (fun j => rows j ++ sel j d) vm' (fun j => sel j d) = ρ5) := ⟨_, rfl⟩
      have M6 : Hid (Mm w0 w6 B ρ5) := by show Mm _ _ _ _; rw [← HR5.out]; exact hm6
      have P6 : Hid (Mp w6 mb d.length D' vm' (fun j => hasId j d)) := hp6
      clear hm6 hp6
      have lB6 := M6.out.le
      go_upto_block 6 with (at_range; refine wpList_range_own _ rfl _ 143 rfl 3 30 law3 Yba.underlying143 Rd mb d.length D' rfl P6.out.1 ?_; intro w7 hrg7 hg7 hs7)
      go_frame
      have M7 : Hid (Mm w0 w7 B ρ5) := M6.out.grown hg7
      obtain ⟨rb, HRB⟩ : ∃ rb, Hid (w6.heap.size = rb) := ⟨_, rfl⟩
      rw [HRB.out] at hrg7 ⊢
      have G7 : Hid (Rg w7 mb rb d.length D' vm' (fun j => hasId j d) (fun j => hasId j d) (Maps.size D')) := P6.out.range hrg7 hg7
      have HBR : Hid (B ≤ rb) := by show _ ≤ _; rw [← HRB.out]; exact lB6
      have HCN : Hid (Maps.size D' ≤ 100000) := by
        have h1 := map_size P6.out.1
        have h2 := HDL.out
        show _ ≤ _
        omega
      clear hrg7 hg7 hs7 lB6
      have b0 : ρ5 (4, 0) = some (bk C 43 10 1 1 (cat5 A byf')) := by rw [← HR5.out]; exact (st3_other (by simp) (by simp) (by simp) (by simp) (by simp)).trans B0.out
      have b1 : ρ5 (4, 1) = some (bk cb 31 1 1 1 [.pointer (some ⟨C, 0, none⟩)]) := by rw [← HR5.out]; exact (st3_other (by simp) (by simp) (by simp) (by simp) (by simp)).trans B1.out
      have b2 : ρ5 (4, 2) = some (bk pb 3 1 1 1 [.int .i64 p]) := by rw [← HR5.out]; exact (st3_other (by simp) (by simp) (by simp) (by simp) (by simp)).trans B2.out
      have b6 : ρ5 (6, 0) = some (bk qb 54 1 P P (vals P vs)) := by rw [← HR5.out]; exact (st3_other (by simp) (by simp) (by simp) (by simp) (by simp)).trans B6.out
      have b7 : ρ5 (7, p) = some ⟨.slice none 0 0, 56, 2, 0, []⟩ := by rw [← HR5.out]; exact (st3_other (by simp) (by simp) (by simp) (by simp) (by simp)).trans B7.out
      have b8 : ρ5 (8, 0) = some (bk nb 9 1 S S (strs S (fun j => pr j || hasId j d))) := by rw [← HR5.out]; simp [st3]
      have b11 : ∀ k, k < S → ρ5 (11, k) = some ⟨vm' k, 29, 4, (sel k d).length, fl Rn.enc (sel k d)⟩ := fun k hk => by rw [← HR5.out]; simp [st3, hk]
      have hasS : ∀ k, hasId k d = true → k < S := fun k hk => by
        obtain ⟨r, hr, e⟩ := List.any_eq_true.1 hk
        obtain ⟨k2, hk2, e2⟩ := (HFD.out r hr).1
        simp only [decide_eq_true_eq] at e
        omega
      have HHS : Hid (∀ k, hasId k d = true → k < S) := hasS
      refine loop4 w0 w7 B ρ5 C cb pb qb mb rb S P p d.length (Maps.size D') (cat5 A byf') vs vm' (fun j => hasId j d) (fun k => sel k d) D' M7.out G7.out HCN.out HBM.out HBR.out hS hP hin (by rw [← HA7.out]; rfl) hasS (HI.out.todo p (Nat.le_refl _)).2.1
        (fun k => ⟨Nat.le_trans (sel_len k d) HDL.out, fine_sel HFD.out k, asc_sel HAS.out k⟩) b0 b1 b2 b6 b7 b11 _ ?_
      have E0 : Hid _ := b0
      have E1 : Hid _ := b1
      have E2 : Hid _ := b2
      have E8 : Hid _ := b8
      clear b0 b1 b2 b6 b7 b8 b11 hasS
      intro x10 x11 x12 x14 x142 x143 x144 x145 x146 x147 x148 x149 x150 x151 x152 x153 x154 x155 x156 x157 x158 x159 x160 x161 x162 x163 x164 x165 x166 x167 x168 x169 x170 x171 x172 x173 x174 x175 x176 x177 x178 x179 x180 x181 x182 l vsp w8 hm8 hsec8 hnil8
      have M8 : Hid (Mm w0 w8 B (st4 ρ5 qb P vs p vsp l)) := hm8
      have HSEC : Hid (Secs (fun j => hasId j d) (fun _ => false) (fun k => sel k d) l) := hsec8
      have HNIL : Hid (l = [] → vsp = .slice none 0 0) := hnil8
      clear hm8 hsec8 hnil8
      obtain ⟨ρ6, HR6⟩ : ∃ ρ6, Hid (st4 ρ5 qb P vs p vsp l = ρ6) := ⟨_, rfl⟩
      rw [HR6.out] at M8
      have b0 : ρ6 (4, 0) = some (bk C 43 10 1 1 (cat5 A byf')) := by rw [← HR6.out]; exact (st4_other (by simp) (by simp) (by simp) (by simp)).trans E0.out
      have b1 : ρ6 (4, 1) = some (bk cb 31 1 1 1 [.pointer (some ⟨C, 0, none⟩)]) := by rw [← HR6.out]; exact (st4_other (by simp) (by simp) (by simp) (by simp)).trans E1.out
      have b2 : ρ6 (4, 2) = some (bk pb 3 1 1 1 [.int .i64 p]) := by rw [← HR6.out]; exact (st4_other (by simp) (by simp) (by simp) (by simp)).trans E2.out
      have b8 : ρ6 (8, 0) = some (bk nb 9 1 S S (strs S (fun j => pr j || hasId j d))) := by rw [← HR6.out]; exact (st4_other (by simp) (by simp) (by simp) (by simp)).trans E8.out
      have b6 : ρ6 (6, 0) = some (bk qb 54 1 P P (vals P (fun j => if j = p then vsp else vs j))) := by rw [← HR6.out]; simp [st4, upd]
      have b7 : ρ6 (7, p) = some ⟨vsp, 56, 2, l.length, fl Sc.enc l⟩ := by rw [← HR6.out]; simp [st4, upd]
      have va : (vals P (fun j => if j = p then vsp else vs j))[p]? = some vsp := by rw [vals_at P _ p hin]; simp
      have y1 := M8.out.cell b1 0 rfl
      have y2 : w8.cell? ⟨C, 7, none⟩ = some (.slice (some ⟨qb, 0, none⟩) P P) := M8.out.cell b0 7 (by rw [← HA7.out]; rfl)
      have y3 := M8.out.cell b2 0 rfl
      have y4 := M8.out.cell b6 p va
      have l0 := M8.out.lt b0
      have l1 := M8.out.lt b1
      have l2 := M8.out.lt b2
      have l6 := M8.out.lt b6
      obtain ⟨a4, c4, hv4⟩ := own_form (M8.out.mem.own _ _ b7)
      simp only at hv4
      have HV4 : Hid (vsp = .slice a4 l.length c4) := hv4
      rw [hv4] at y4
      clear hv4
      have CS : Hid (Calls Yba.prog 32 #[.iface 54 (.slice a4 l.length c4), .func (.func 33) #[] #[.pointer (some ⟨cb, 0, none⟩), .pointer (some ⟨pb, 0, none⟩)]] w8.drew fun e w' =>
        e = .returned (.tuple #[]) ∧ ∃ l', l'.Perm l ∧ AscR l' ∧ w'.ownsRow B 56 2 vsp l.length (fl Sc.enc l') ∧ w8.grownBy w' vsp.ownBlock) := by
        show Calls _ _ _ _ _
        have b7' := M8.out.mem.own _ _ b7
        have hlo : l.length ≤ 1000000 := by
          have h1 := secs_len HSEC.out
          omega
        refine (sortSecOwn B (.slice a4 l.length c4) l (fun j => hasId j d) (fun x hx => ((HSEC.out.mem x.id (HSEC.out.low x hx)).1 (List.mem_map.2 ⟨x, hx, rfl⟩)).1) cb C pb nb qb S P p w8.drew hlo (by rw [← HV4.out]; exact b7'.drew) y1 y3 (M8.out.drew.cell b0 9 (by rw [← HA9.out]; rfl)) y2 y4 hin hP hS
          (fun t ht => ⟨HHS.out t ht, M8.out.drew.cell b8 t (by rw [strs_at S _ t (HHS.out t ht)]; simp [ht])⟩) (fun g hg => ?_) ⟨l1, l2, l0, l6, M8.out.lt b8⟩).mono ?_
        · rw [← HV4.out] at hg
          have hn : ∀ {x : Lb} {g' e' k' n' c' : Nat} {xs' : List Value}, ρ6 x = some (bk g' e' k' n' c' xs') → x ≠ (7, p) → g' ≠ g := fun hx hne e => M8.out.apart hx b7 hne hg (by rw [e]; rfl)
          exact ⟨hn b1 (by simp), hn b2 (by simp), hn b0 (by simp), hn b6 (by simp), hn b8 (by simp)⟩
        · rintro e w' ⟨rfl, l', h1, h2, h3, h4⟩
          rw [← HV4.out] at h3 h4
          exact ⟨rfl, l', h1, h2, h3, grown_trans (grown_drew w8 _) h4⟩
      have F7 : Hid _ := b7
      clear b0 b1 b2 b6 b7 b8 va
      go_wp2_with fail
      refine wp_region_still_tail 9 (by kernel_rfl) (by kernel_rfl) ?_
      change wpStill _ _ (World.drew _) _ _ _
      simp only [List.take_succ_cons, List.take_zero, List.drop_succ_cons, List.drop_zero]
      repeat still_step
      refine wpStill_nil ?_
      change wpList _ _ _ _ _ w8.drew
      go_wp2_with fail
      refine Calls.mono CS.out ?_
      rintro e w9 ⟨rfl, l', hpl, hasr, hown9, hgr9⟩
      have M9 : Hid (Mm w0 w9 B (upd ρ6 (7, p) (some ⟨vsp, 56, 2, l.length, fl Sc.enc l'⟩))) := M8.out.put F7.out hgr9 hown9 (fun g hg => .inl hg)
      have HPL : Hid (l'.Perm l) := hpl
      have HAR : Hid (AscR l') := hasr
      clear hpl hasr hown9 hgr9
      go_wp2_with fail
      go_roundw
      case rel =>
        refine ⟨p + 1, fun q => if q = p then d else rr q, fun q => if q = p then tot acc else hs q, fun q => if q = p then acc else acs q, byf', bs ++ hsp p acc, fun j => if j = p then vsp else vs j, fun q => if q = p then l' else secs q, fun j => pr j || hasId j d, vb', fun j => rows j ++ sel j d, by go_num, by omega, ?_, ?_⟩
        · show Mm _ _ _ _
          refine M9.out.weak (fun x => ?_)
          rw [← HR6.out, ← HR5.out, ← HR4.out, ← HR3.out, ← HR2.out, ← HR0.out, ← HFM.out]
          exact Or.elim (st1_weak ρ C cb hb hl qb nb sb P S p A hv rr hs byf byf' bs vs secs pr vb vb' vm' rows d acc vsp l l' _ _ hin HPL.out.length_eq x) .inl (fun h => .inr (.inl h))
        · exact inv1_step HI.out d acc vsp l l' HPM.out HAS.out HMI.out HSM.out HSEC.out HPL.out HAR.out HNIL.out
      case measure => simp [RowKit.intOf]; omega
    · go_wp2_with fail
      obtain rfl : p = P := by omega
      exact HE.out _ _ _ _ _ _ _ _ _ _ _ _ _ _ _ _ _ _ _ _ _ _ _ _ _ _ _ _ _ _ _ _ _ _ _ _ _ _ _ _ _ _ _ _ _ _ _ _ _ _ _ _ _ _ _ _ _ _ _ _ _ _ _ _ _ _ _ _ _ _ _ _ _ _ _ _ _ _ _ _ _ _ _ _ _ _ _ _ _ _ _ _ _ _ _ _ _ _ _ _ _ _ _ _ _ _ _ _ _ _ _ _ _ _ _ _ _ _ _ _ _ _ _ _ _ _ _ _ _ _ _ _ _ _ _ _ _ _ _ _ _ _ _ _ _ rr hs acs byf bs vs secs pr vb rows _ HW.out HI.out

end Go.Proofs.Ybulkebla

