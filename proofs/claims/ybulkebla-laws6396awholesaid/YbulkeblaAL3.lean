import Derived.Test.YbulkeblaAL2
import Derived.Test.YbulkeblaAMap
import Derived.Test.YbulkeblaAReg
/-! index's loop over a peer's runs: names, the peer's runs by section, all runs by section. -/
namespace Go.Proofs.Ybulkebla
open Go.RowKit Go.Lib
set_option linter.unusedVariables false
set_option linter.unusedSectionVars false
variable [Inhabited Rn] [Inhabited Hs]

def strs (S : Nat) (pr : Nat → Bool) : List Value := (List.range S).map fun j => Value.string (if pr j then nm j else ⟨#[]⟩)
def vals (S : Nat) (vb : Nat → Value) : List Value := (List.range S).map vb
def sel (j : Nat) (l : List Rn) : List Rn := l.filter fun r => decide (r.id = (j : Int))
def hasId (j : Nat) (l : List Rn) : Bool := l.any fun r => decide (r.id = (j : Int))
theorem vals_at (S : Nat) (vb : Nat → Value) (k : Nat) (hk : k < S) : (vals S vb)[k]? = some (vb k) := by simp [vals, hk]
theorem strs_at (S : Nat) (pr : Nat → Bool) (k : Nat) (hk : k < S) : (strs S pr)[k]? = some (.string (if pr k then nm k else ⟨#[]⟩)) := by simp [strs, hk]
theorem vals_set (S : Nat) (vb : Nat → Value) (k : Nat) (v : Value) (hk : k < S) : (vals S vb).set k v = vals S (fun j => if j = k then v else vb j) := by
  apply List.ext_getElem?
  intro t
  rw [List.getElem?_set]
  by_cases e : k = t
  · subst e; simp [vals, hk]
  · have e' : ¬ t = k := fun h => e h.symm
    simp only [e, if_false, vals, List.getElem?_map]
    cases h : (List.range S)[t]? with
    | none => rfl
    | some x =>
      have : x = t := by rw [List.getElem?_range (by have := (List.getElem?_eq_some_iff.1 h).1; simpa using this)] at h; exact (Option.some.inj h).symm
      subst this; simp [e']
theorem strs_set (S : Nat) (pr : Nat → Bool) (k : Nat) (hk : k < S) : (strs S pr).set k (.string (nm k)) = strs S (fun j => pr j || decide (j = k)) := by
  have h := vals_set S (fun j => Value.string (if pr j then nm j else ⟨#[]⟩)) k (.string (nm k)) hk
  unfold vals at h
  unfold strs
  rw [h]
  apply List.map_congr_left
  intro j _
  by_cases e : j = k
  · subst e; simp
  · simp [e]
theorem take_snoc {α : Type} [Inhabited α] (d : List α) (i : Nat) (h : i < d.length) : d.take (i + 1) = d.take i ++ [d.getD i default] := by
  rw [List.take_add_one, List.getElem?_eq_getElem h, Option.toList_some, List.getD_eq_getElem?_getD, List.getElem?_eq_getElem h]; rfl
theorem sel_snoc (j : Nat) (l : List Rn) (r : Rn) : sel j (l ++ [r]) = if r.id = (j : Int) then sel j l ++ [r] else sel j l := by
  unfold sel
  rw [List.filter_append]
  by_cases e : r.id = (j : Int)
  · simp [e]
  · simp [e]
theorem hasId_snoc (j : Nat) (l : List Rn) (r : Rn) : hasId j (l ++ [r]) = (hasId j l || decide (r.id = (j : Int))) := by
  simp [hasId]
theorem sel_len (j : Nat) (l : List Rn) : (sel j l).length ≤ l.length := List.length_filter_le _ _

def st3 (ρ : Lb → Option Rw) (nb sb S : Nat) (pr : Nat → Bool) (vb : Nat → Value) (rows : Nat → List Rn) (vm : Nat → Value) (mrows : Nat → List Rn) : Lb → Option Rw := fun l =>
  if l.1 = 10 then if l.2 < S then some ⟨vb l.2, 29, 4, (rows l.2).length, fl Rn.enc (rows l.2)⟩ else none
  else if l.1 = 11 then if l.2 < S then some ⟨vm l.2, 29, 4, (mrows l.2).length, fl Rn.enc (mrows l.2)⟩ else none
  else if l = (8, 0) then some (bk nb 9 1 S S (strs S pr))
  else if l = (9, 0) then some (bk sb 30 1 S S (vals S vb))
  else if l = (4, 4) then none
  else ρ l
theorem st3_step (ρ : Lb → Option Rw) (nb sb S : Nat) (pr pr' : Nat → Bool) (vb : Nat → Value) (rows rows' : Nat → List Rn) (vm : Nat → Value) (mrows mrows' : Nat → List Rn) (x : Option Rw) (k : Nat) (r : Rn) (v1 v2 : Value) (hk : k < S)
    (hpr : ∀ j, pr' j = (pr j || decide (j = k))) (hr : ∀ j, rows' j = if j = k then rows j ++ [r] else rows j) (hm : ∀ j, mrows' j = if j = k then mrows j ++ [r] else mrows j) :
    upd (upd (upd (upd (upd (upd (st3 ρ nb sb S pr vb rows vm mrows) (4, 4) x) (8, 0) (some (bk nb 9 1 S S ((strs S pr).set k (.string (nm k)))))) (11, k) (some ⟨v1, 29, 4, (mrows k).length + 1, fl Rn.enc (mrows k) ++ Rn.enc r⟩)) (10, k) (some ⟨v2, 29, 4, (rows k).length + 1, fl Rn.enc (rows k) ++ Rn.enc r⟩))
      (9, 0) (some (bk sb 30 1 S S ((vals S vb).set k v2)))) (4, 4) none = st3 ρ nb sb S pr' (fun j => if j = k then v2 else vb j) rows' (fun j => if j = k then v1 else vm j) mrows' := by
  obtain rfl : pr' = fun j => pr j || decide (j = k) := funext hpr
  obtain rfl : rows' = fun j => if j = k then rows j ++ [r] else rows j := funext hr
  obtain rfl : mrows' = fun j => if j = k then mrows j ++ [r] else mrows j := funext hm
  funext l
  obtain ⟨a, b⟩ := l
  rw [strs_set S pr k hk, vals_set S vb k v2 hk]
  simp only [upd, st3, Prod.mk.injEq]
  by_cases h10 : a = 10
  · subst h10
    by_cases hb : b = k
    · subst hb; simp [hk, fl_append, fl_one]
    · simp [hb]
  by_cases h11 : a = 11
  · subst h11
    by_cases hb : b = k
    · subst hb; simp [hk, fl_append, fl_one]
    · simp [hb]
  by_cases h8 : a = 8 ∧ b = 0
  · obtain ⟨rfl, rfl⟩ := h8; simp
  by_cases h9 : a = 9 ∧ b = 0
  · obtain ⟨rfl, rfl⟩ := h9; simp
  by_cases h4 : a = 4 ∧ b = 4
  · obtain ⟨rfl, rfl⟩ := h4; simp
  simp [h10, h11, h8, h9, h4]
theorem st3_other {ρ : Lb → Option Rw} {nb sb S : Nat} {pr : Nat → Bool} {vb : Nat → Value} {rows : Nat → List Rn} {vm : Nat → Value} {mrows : Nat → List Rn} {l : Lb} (h1 : l.1 ≠ 10) (h2 : l.1 ≠ 11) (h3 : l ≠ (8, 0)) (h4 : l ≠ (9, 0)) (h5 : l ≠ (4, 4)) : st3 ρ nb sb S pr vb rows vm mrows l = ρ l := by
  simp [st3, h1, h2, h3, h4, h5]
theorem info29' : (Yba.prog.info? 29).map (fun i => (i.zero, i.size, i.bytes)) = some (some (.agg #[.string ⟨#[]⟩, .int .i64 0, .int .i64 0, .int .i64 0]), 4, 40) := by kernel_rfl
theorem set_grown (w : World) (g j : Nat) (u : Value) : w.grownBy (w.setCell ⟨g, j, none⟩ u) (some g) := gb_set (gb_refl w _) j u

set_option maxHeartbeats 4000000 in
set_option maxRecDepth 100000 in
theorem loop3 {c0 c3 c4 c5 c6 c8 c9 c10 c11 c12 c13 c14 c15 c16 c17 c18 c19 c20 c21 c22 c23 c24 c25 c26 c27 c28 c29 c30 c31 c32 c33 c34 c35 c36 c37 c38 c39 c40 c41 c42 c43 c44 c45 c46 c47 c48 c49 c50 c51 c52 c53 c54 c55 c56 c57 c58 c59 c60 c61 c62 c63 c64 c65 c66 c67 c68 c69 c70 c71 c72 c73 c74 c75 c76 c77 c78 c79 c80 c81 c82 c83 c84 c85 c86 c87 c88 c89 c90 c91 c92 c93 c94 c95 c96 c97 c98 c99 c100 c101 c105 c106 c107 c108 c109 c110 c111 c112 c113 c114 c115 c116 c117 c118 c119 c120 c121 c122 c123 c124 c125 c126 c127 c128 c129 c130 c131 c132 c133 c134 c135 c136 c137 c138 c139 c140 c141 c142 c143 c144 c145 c146 c147 c148 c149 c150 c151 c152 c153 c154 c155 c156 c157 c158 c159 c160 c161 c162 c163 c164 c165 c166 c167 c168 c169 c170 c171 c172 c173 c174 c175 c176 c177 c178 c179 c180 c181 c182 c183 c184 c185 c186 c187 c188 c189 c190 c191 c192 c193 c194 c195 c196 c197 c198 c199 c200 c201 c202 c203 c204 c205 c206 c207 c208 c209 c210 c211 c212 c213 c214 c215 c216 c217 c218 c219 c220 c221 c222 c223 c224 c225 c226 c227 c228 c229 c230 c231 c232 c233 c234 c235 c236 c237 c238 c239 c240 c241 c242 c243 c244 c245 c246 c247 c248 c249 c250 c251 c252 c253 c254 c255 c256 c257 c258 c259 c260 c261 c262 c263 c264 c265 c266 c267 c268 c269 c270 c271 c272 c273 c274 c275 c276 c277 c278 c279 : Value} (w0 w : World) (B : Nat) (ρ : Lb → Option Rw) (C cb nb sb mb S p : Nat) (A : List Value) (v : Value) (d : List Rn) (pr : Nat → Bool) (vb vm : Nat → Value) (rows : Nat → List Rn) (D : DataW Value)
    (hM : Mm w0 w B (st3 ρ nb sb S pr vb rows vm (fun _ => []))) (hMp : Mp w mb 0 D vm (fun _ => false)) (hmb : B ≤ mb) (hS : S ≤ 6) (hA9 : A[9]? = some (.slice (some ⟨nb, 0, none⟩) S S)) (hd : d.length ≤ 4096) (hid : ∀ r ∈ d, ∃ k : Nat, k < S ∧ r.id = k) (hrow : ∀ j, (rows j).length ≤ 100000)
    (h0 : ρ (4, 0) = some (bk C 43 10 1 1 A)) (h1 : ρ (4, 1) = some (bk cb 31 1 1 1 [.pointer (some ⟨C, 0, none⟩)])) (h2 : ρ (0, p) = some ⟨v, 29, 4, d.length, fl Rn.enc d⟩) (Q : Exit → Act → World → Prop)
    (hexit : ∀ (u9 u104 u105 u106 u107 u108 u109 u110 u111 u112 u113 u114 u115 u116 u117 u118 u119 u120 u121 u122 u123 u124 u125 u126 u127 u128 u129 u130 u131 u132 u133 u134 u135 u136 u137 u138 u139 : Value) (vb' vm' : Nat → Value) (D' : DataW Value) (w' : World), Mm w0 w' B (st3 ρ nb sb S (fun j => pr j || hasId j d) vb' (fun j => rows j ++ sel j d) vm' (fun j => sel j d)) → Mp w' mb d.length D' vm' (fun j => hasId j d) → Q .normal ⟨#[c0, .pointer (some ⟨cb, 0, none⟩), .slice (some ⟨sb, 0, none⟩) S S, c3, c4, c5, c6, .map (some mb), c8, u9, c10, c11, c12, c13, c14, c15, c16, c17, c18, c19, c20, c21, c22, c23, c24, c25, c26, c27, c28, c29, c30, c31, c32, c33, c34, c35, c36, c37, c38, c39, c40, c41, c42, c43, c44, c45, c46, c47, c48, c49, c50, c51, c52, c53, c54, c55, c56, c57, c58, c59, c60, c61, c62, c63, c64, c65, c66, c67, c68, c69, c70, c71, c72, c73, c74, c75, c76, c77, c78, c79, c80, c81, c82, c83, c84, c85, c86, c87, c88, c89, c90, c91, c92, c93, c94, c95, c96, c97, c98, c99, c100, c101, v, .int .i64 (d.length : Nat), u104, u105, u106, u107, u108, u109, u110, u111, u112, u113, u114, u115, u116, u117, u118, u119, u120, u121, u122, u123, u124, u125, u126, u127, u128, u129, u130, u131, u132, u133, u134, u135, u136, u137, u138, u139, c140, c141, c142, c143, c144, c145, c146, c147, c148, c149, c150, c151, c152, c153, c154, c155, c156, c157, c158, c159, c160, c161, c162, c163, c164, c165, c166, c167, c168, c169, c170, c171, c172, c173, c174, c175, c176, c177, c178, c179, c180, c181, c182, c183, c184, c185, c186, c187, c188, c189, c190, c191, c192, c193, c194, c195, c196, c197, c198, c199, c200, c201, c202, c203, c204, c205, c206, c207, c208, c209, c210, c211, c212, c213, c214, c215, c216, c217, c218, c219, c220, c221, c222, c223, c224, c225, c226, c227, c228, c229, c230, c231, c232, c233, c234, c235, c236, c237, c238, c239, c240, c241, c242, c243, c244, c245, c246, c247, c248, c249, c250, c251, c252, c253, c254, c255, c256, c257, c258, c259, c260, c261, c262, c263, c264, c265, c266, c267, c268, c269, c270, c271, c272, c273, c274, c275, c276, c277, c278, c279], []⟩ w') :
    Code.wp Yba.prog (pick [true, true, true, true, true, true, false, true, false, false, true, true, false, false, true, true, true, true, false, true] (Yba.f7.body.getD .skip)) Q ⟨#[c0, .pointer (some ⟨cb, 0, none⟩), .slice (some ⟨sb, 0, none⟩) S S, c3, c4, c5, c6, .map (some mb), c8, c9, c10, c11, c12, c13, c14, c15, c16, c17, c18, c19, c20, c21, c22, c23, c24, c25, c26, c27, c28, c29, c30, c31, c32, c33, c34, c35, c36, c37, c38, c39, c40, c41, c42, c43, c44, c45, c46, c47, c48, c49, c50, c51, c52, c53, c54, c55, c56, c57, c58, c59, c60, c61, c62, c63, c64, c65, c66, c67, c68, c69, c70, c71, c72, c73, c74, c75, c76, c77, c78, c79, c80, c81, c82, c83, c84, c85, c86, c87, c88, c89, c90, c91, c92, c93, c94, c95, c96, c97, c98, c99, c100, c101, v, .int .i64 (d.length : Nat), .int .i64 0, c105, c106, c107, c108, c109, c110, c111, c112, c113, c114, c115, c116, c117, c118, c119, c120, c121, c122, c123, c124, c125, c126, c127, c128, c129, c130, c131, c132, c133, c134, c135, c136, c137, c138, c139, c140, c141, c142, c143, c144, c145, c146, c147, c148, c149, c150, c151, c152, c153, c154, c155, c156, c157, c158, c159, c160, c161, c162, c163, c164, c165, c166, c167, c168, c169, c170, c171, c172, c173, c174, c175, c176, c177, c178, c179, c180, c181, c182, c183, c184, c185, c186, c187, c188, c189, c190, c191, c192, c193, c194, c195, c196, c197, c198, c199, c200, c201, c202, c203, c204, c205, c206, c207, c208, c209, c210, c211, c212, c213, c214, c215, c216, c217, c218, c219, c220, c221, c222, c223, c224, c225, c226, c227, c228, c229, c230, c231, c232, c233, c234, c235, c236, c237, c238, c239, c240, c241, c242, c243, c244, c245, c246, c247, c248, c249, c250, c251, c252, c253, c254, c255, c256, c257, c258, c259, c260, c261, c262, c263, c264, c265, c266, c267, c268, c269, c270, c271, c272, c273, c274, c275, c276, c277, c278, c279], []⟩ w := by
  have HM : Hid (Mm w0 w B (st3 ρ nb sb S pr vb rows vm (fun _ => []))) := hM
  have HMp : Hid (Mp w mb 0 D vm (fun _ => false)) := hMp
  have H0 : Hid (ρ (4, 0) = some (bk C 43 10 1 1 A)) := h0
  have H1 : Hid (ρ (4, 1) = some (bk cb 31 1 1 1 [.pointer (some ⟨C, 0, none⟩)])) := h1
  have H2 : Hid (ρ (0, p) = some ⟨v, 29, 4, d.length, fl Rn.enc d⟩) := h2
  have HA : Hid (A[9]? = some (.slice (some ⟨nb, 0, none⟩) S S)) := hA9
  have HID : Hid (∀ r ∈ d, ∃ k : Nat, k < S ∧ r.id = k) := hid
  have HMB : Hid (B ≤ mb) := hmb
  have HRW : Hid (∀ j, (rows j).length ≤ 100000) := hrow
  have HE : Hid (∀ (u9 u104 u105 u106 u107 u108 u109 u110 u111 u112 u113 u114 u115 u116 u117 u118 u119 u120 u121 u122 u123 u124 u125 u126 u127 u128 u129 u130 u131 u132 u133 u134 u135 u136 u137 u138 u139 : Value) (vb' vm' : Nat → Value) (D' : DataW Value) (w' : World), Mm w0 w' B (st3 ρ nb sb S (fun j => pr j || hasId j d) vb' (fun j => rows j ++ sel j d) vm' (fun j => sel j d)) → Mp w' mb d.length D' vm' (fun j => hasId j d) → Q .normal ⟨#[c0, .pointer (some ⟨cb, 0, none⟩), .slice (some ⟨sb, 0, none⟩) S S, c3, c4, c5, c6, .map (some mb), c8, u9, c10, c11, c12, c13, c14, c15, c16, c17, c18, c19, c20, c21, c22, c23, c24, c25, c26, c27, c28, c29, c30, c31, c32, c33, c34, c35, c36, c37, c38, c39, c40, c41, c42, c43, c44, c45, c46, c47, c48, c49, c50, c51, c52, c53, c54, c55, c56, c57, c58, c59, c60, c61, c62, c63, c64, c65, c66, c67, c68, c69, c70, c71, c72, c73, c74, c75, c76, c77, c78, c79, c80, c81, c82, c83, c84, c85, c86, c87, c88, c89, c90, c91, c92, c93, c94, c95, c96, c97, c98, c99, c100, c101, v, .int .i64 (d.length : Nat), u104, u105, u106, u107, u108, u109, u110, u111, u112, u113, u114, u115, u116, u117, u118, u119, u120, u121, u122, u123, u124, u125, u126, u127, u128, u129, u130, u131, u132, u133, u134, u135, u136, u137, u138, u139, c140, c141, c142, c143, c144, c145, c146, c147, c148, c149, c150, c151, c152, c153, c154, c155, c156, c157, c158, c159, c160, c161, c162, c163, c164, c165, c166, c167, c168, c169, c170, c171, c172, c173, c174, c175, c176, c177, c178, c179, c180, c181, c182, c183, c184, c185, c186, c187, c188, c189, c190, c191, c192, c193, c194, c195, c196, c197, c198, c199, c200, c201, c202, c203, c204, c205, c206, c207, c208, c209, c210, c211, c212, c213, c214, c215, c216, c217, c218, c219, c220, c221, c222, c223, c224, c225, c226, c227, c228, c229, c230, c231, c232, c233, c234, c235, c236, c237, c238, c239, c240, c241, c242, c243, c244, c245, c246, c247, c248, c249, c250, c251, c252, c253, c254, c255, c256, c257, c258, c259, c260, c261, c262, c263, c264, c265, c266, c267, c268, c269, c270, c271, c272, c273, c274, c275, c276, c277, c278, c279], []⟩ w') := hexit
  clear hM hMp h0 h1 h2 hA9 hid hexit hmb hrow
  obtain ⟨n, hn⟩ : ∃ n, d.length = n := ⟨_, rfl⟩
  rw [hn] at hd ⊢
  have HN : Hid (d.length = n) := hn
  clear hn
  obtain ⟨i0, hi0, hz0, hz1, hz2⟩ := info_parts info29'
  conv => arg 2; whnf
  go_wp2_with fail
  go_loopw [104] (fun v104 wr => ∃ (i : Nat) (vb' vm' : Nat → Value) (D' : DataW Value), v104 = .int .i64 i ∧ i ≤ n ∧ Hid (Mm w0 wr B (st3 ρ nb sb S (fun j => pr j || hasId j (d.take i)) vb' (fun j => rows j ++ sel j (d.take i)) vm' (fun j => sel j (d.take i)))) ∧ Hid (Mp wr mb i D' vm' (fun j => hasId j (d.take i)))) (fun v104 _ => n - (RowKit.intOf v104).toNat)
  case atStart => 
    refine ⟨0, vb, vm, D, rfl, by omega, ?_, ?_⟩
    · show Mm _ _ _ _
      have h := HM.out
      simp only [List.take_zero, sel, hasId, List.filter_nil, List.any_nil, Bool.or_false, List.append_nil] at h ⊢
      exact h
    · exact HMp.out
  case round =>
    obtain ⟨i, vb1, vm1, D1, rfl, hi, HW, HP⟩ := hrel
    by_cases hin : i < n
    · have hin2 : i < d.length := by rw [HN.out]; exact hin
      have hr : st3 ρ nb sb S (fun j => pr j || hasId j (d.take i)) vb1 (fun j => rows j ++ sel j (d.take i)) vm1 (fun j => sel j (d.take i)) (0, p) = some ⟨v, 29, 4, d.length, fl Rn.enc d⟩ := (st3_other (by simp) (by simp) (by simp) (by simp) (by simp)).trans H2.out
      have ho := HW.out.mem.own _ _ hr
      obtain ⟨g, cap, hv⟩ := Joins.ownsRow_form ho (by show 0 < d.length; omega)
      simp only at hv
      subst hv
      rw [HN.out] at hr
      obtain ⟨r, HR⟩ : ∃ r, Hid (d.getD i default = r) := ⟨_, rfl⟩
      have hmem : r ∈ d := by
        rw [← HR.out, List.getD_eq_getElem?_getD, List.getElem?_eq_getElem hin2]; exact List.getElem_mem _
      obtain ⟨k, hkS, hrid⟩ := HID.out r hmem
      have HK : Hid (r.id = (k : Int)) := hrid
      clear hrid
      have hlen : ∀ x : Rn, (Rn.enc x).length = 4 := fun _ => rfl
      have cc0 := fl_at Rn.enc 4 hlen d i 0 hin2 (by omega)
      have cc1 := fl_at Rn.enc 4 hlen d i 1 hin2 (by omega)
      have cc2 := fl_at Rn.enc 4 hlen d i 2 hin2 (by omega)
      have cc3 := fl_at Rn.enc 4 hlen d i 3 hin2 (by omega)
      rw [HR.out] at cc0 cc1 cc2 cc3
      have k0 : wr.cell? ⟨g, i * 4, none⟩ = some (.string (nm k)) := HW.out.cell hr (i * 4) (by rw [Nat.add_zero] at cc0; rw [cc0]; simp [Rn.enc, HK.out])
      have k1 : wr.cell? ⟨g, i * 4 + 1, none⟩ = some (.int .i64 k) := HW.out.cell hr (i * 4 + 1) (by rw [cc1]; simp [Rn.enc, HK.out])
      have k2 : wr.cell? ⟨g, i * 4 + 2, none⟩ = some (.int .i64 r.first) := HW.out.cell hr (i * 4 + 2) (by rw [cc2]; simp [Rn.enc])
      have k3 : wr.cell? ⟨g, i * 4 + 3, none⟩ = some (.int .i64 r.count) := HW.out.cell hr (i * 4 + 3) (by rw [cc3]; simp [Rn.enc])
      have lg := HW.out.lt hr
      have HLEN : Hid _ := hlen
      clear cc0 cc1 cc2 cc3 ho hlen hr
      obtain ⟨rf, HRF⟩ : ∃ rf, Hid (r.first = rf) := ⟨_, rfl⟩
      obtain ⟨rc, HRC⟩ : ∃ rc, Hid (r.count = rc) := ⟨_, rfl⟩
      rw [HRF.out] at k2
      rw [HRC.out] at k3
      have HENC : Hid (Rn.enc r = [.string (nm k), .int .i64 k, .int .i64 rf, .int .i64 rc]) := by
        show Rn.enc r = _
        rw [← HK.out, ← HRF.out, ← HRC.out]; rfl
      go_wp2_with fail
      obtain ⟨g9, HG9⟩ : ∃ g9, Hid (wr.heap.size = g9) := ⟨_, rfl⟩
      rw [HG9.out]
      obtain ⟨ρs, HRS⟩ : ∃ ρs, Hid (st3 ρ nb sb S (fun j => pr j || hasId j (d.take i)) vb1 (fun j => rows j ++ sel j (d.take i)) vm1 (fun j => sel j (d.take i)) = ρs) := ⟨_, rfl⟩
      rw [HRS.out] at HW
      have M1 : Hid (Mm w0 (wr.alloc (.cells #[.string (nm k), .int .i64 k, .int .i64 rf, .int .i64 rc] 29)) B (upd ρs (4, 4) (some (bk g9 29 4 1 1 [.string (nm k), .int .i64 k, .int .i64 rf, .int .i64 rc])))) := HW.out.box (4, 4) #[.string (nm k), .int .i64 k, .int .i64 rf, .int .i64 rc] 29 4 1 (by decide) rfl HG9.out
      have P1 : Hid (Mp (wr.alloc (.cells #[.string (nm k), .int .i64 k, .int .i64 rf, .int .i64 rc] 29)) mb i D1 vm1 (fun j => hasId j (d.take i))) := HP.out.kept0 (World.grownBy_alloc _ _ _)
      generalize wr.alloc (.cells #[.string (nm k), .int .i64 k, .int .i64 rf, .int .i64 rc] 29) = w1 at M1 P1 ⊢
      have s8 : ρs (8, 0) = some (bk nb 9 1 S S (strs S (fun j => pr j || hasId j (d.take i)))) := by rw [← HRS.out]; simp [st3]
      have s9 : ρs (9, 0) = some (bk sb 30 1 S S (vals S vb1)) := by rw [← HRS.out]; simp [st3]
      have s10 : ρs (10, k) = some ⟨vb1 k, 29, 4, (rows k ++ sel k (d.take i)).length, fl Rn.enc (rows k ++ sel k (d.take i))⟩ := by rw [← HRS.out]; simp [st3, hkS]
      have s11 : ρs (11, k) = some ⟨vm1 k, 29, 4, (sel k (d.take i)).length, fl Rn.enc (sel k (d.take i))⟩ := by rw [← HRS.out]; simp [st3, hkS]
      have s0 : ρs (4, 0) = some (bk C 43 10 1 1 A) := by rw [← HRS.out]; exact (st3_other (by simp) (by simp) (by simp) (by simp) (by simp)).trans H0.out
      have s1 : ρs (4, 1) = some (bk cb 31 1 1 1 [.pointer (some ⟨C, 0, none⟩)]) := by rw [← HRS.out]; exact (st3_other (by simp) (by simp) (by simp) (by simp) (by simp)).trans H1.out
      have r0 : upd ρs (4, 4) (some (bk g9 29 4 1 1 [.string (nm k), .int .i64 k, .int .i64 rf, .int .i64 rc])) (4, 0) = _ := (upd_other _ _ (by simp)).trans s0
      have r1 : upd ρs (4, 4) (some (bk g9 29 4 1 1 [.string (nm k), .int .i64 k, .int .i64 rf, .int .i64 rc])) (4, 1) = _ := (upd_other _ _ (by simp)).trans s1
      have r4 : upd ρs (4, 4) (some (bk g9 29 4 1 1 [.string (nm k), .int .i64 k, .int .i64 rf, .int .i64 rc])) (4, 4) = _ := upd_same _ _ _
      have r8 : upd ρs (4, 4) (some (bk g9 29 4 1 1 [.string (nm k), .int .i64 k, .int .i64 rf, .int .i64 rc])) (8, 0) = _ := (upd_other _ _ (by simp)).trans s8
      have r9 : upd ρs (4, 4) (some (bk g9 29 4 1 1 [.string (nm k), .int .i64 k, .int .i64 rf, .int .i64 rc])) (9, 0) = _ := (upd_other _ _ (by simp)).trans s9
      have r10 : upd ρs (4, 4) (some (bk g9 29 4 1 1 [.string (nm k), .int .i64 k, .int .i64 rf, .int .i64 rc])) (10, k) = _ := (upd_other _ _ (by simp)).trans s10
      have r11 : upd ρs (4, 4) (some (bk g9 29 4 1 1 [.string (nm k), .int .i64 k, .int .i64 rf, .int .i64 rc])) (11, k) = _ := (upd_other _ _ (by simp)).trans s11
      obtain ⟨ρ1, HR1⟩ : ∃ ρ1, Hid (upd ρs (4, 4) (some (bk g9 29 4 1 1 [.string (nm k), .int .i64 k, .int .i64 rf, .int .i64 rc])) = ρ1) := ⟨_, rfl⟩
      rw [HR1.out] at M1 r0 r1 r4 r8 r9 r10 r11
      clear s8 s9 s10 s11 s0 s1 k0 k1 k2 k3 lg
      have x1 := M1.out.cell r1 0 rfl
      have x2 : w1.cell? ⟨C, 9, none⟩ = some (.slice (some ⟨nb, 0, none⟩) S S) := M1.out.cell r0 9 HA.out
      have x3 := M1.out.cell r4 0 rfl
      have x4 := M1.out.cell r4 1 rfl
      have x5 := M1.out.cell r8 k (strs_at S _ k hkS)
      have y5 := M1.out.froz r8 k
      have l0 := M1.out.lt r0
      have l1 := M1.out.lt r1
      have l4 := M1.out.lt r4
      have l8 := M1.out.lt r8
      have NMB : Hid (nb ≠ mb) := fun e => by subst e; exact M1.out.notMap P1.out.1 r8 rfl
      have R4 : Hid _ := r4
      have R8 : Hid _ := r8
      have R9 : Hid _ := r9
      have R10 : Hid _ := r10
      have R11 : Hid _ := r11
      clear r0 r1 r4 r8 r9 r10 r11
      have hp1 : (0 : Int) ≤ (k : Int) := Int.natCast_nonneg _
      have hp2 : (k : Int) < (S : Int) := by omega
      refine wp_region_still_tail 8 (by kernel_rfl) (by kernel_rfl) ?_
      change wpStill _ _ (World.drew _) _ _ _
      simp only [List.take_succ_cons, List.take_zero, List.drop_succ_cons, List.drop_zero]
      repeat still_step
      refine wpStill_nil ?_
      go_wp2_with fail
      have M2 : Hid (Mm w0 (w1.setCell ⟨nb, k, none⟩ (.string (nm k))).drew B (upd ρ1 (8, 0) (some (bk nb 9 1 S S ((strs S (fun j => pr j || hasId j (d.take i))).set k (.string (nm k))))))) := (M1.out.store R8.out k (.string (nm k))).drew
      have P2 : Hid (Mp (w1.setCell ⟨nb, k, none⟩ (.string (nm k))).drew mb i D1 vm1 (fun j => hasId j (d.take i))) := (P1.out.kept (set_grown w1 nb k _) (by simp only [ne_eq, Option.some.injEq]; exact fun e => NMB.out e.symm)).kept0 (grown_drew _ _)
      generalize (w1.setCell ⟨nb, k, none⟩ (.string (nm k))).drew = w2 at M2 P2 ⊢
      have q4 : upd ρ1 (8, 0) (some (bk nb 9 1 S S ((strs S (fun j => pr j || hasId j (d.take i))).set k (.string (nm k))))) (4, 4) = _ := (upd_other _ _ (by simp)).trans R4.out
      have q9 : upd ρ1 (8, 0) (some (bk nb 9 1 S S ((strs S (fun j => pr j || hasId j (d.take i))).set k (.string (nm k))))) (9, 0) = _ := (upd_other _ _ (by simp)).trans R9.out
      have q10 : upd ρ1 (8, 0) (some (bk nb 9 1 S S ((strs S (fun j => pr j || hasId j (d.take i))).set k (.string (nm k))))) (10, k) = _ := (upd_other _ _ (by simp)).trans R10.out
      have q11 : upd ρ1 (8, 0) (some (bk nb 9 1 S S ((strs S (fun j => pr j || hasId j (d.take i))).set k (.string (nm k))))) (11, k) = _ := (upd_other _ _ (by simp)).trans R11.out
      obtain ⟨ρ2, HR2⟩ : ∃ ρ2, Hid (upd ρ1 (8, 0) (some (bk nb 9 1 S S ((strs S (fun j => pr j || hasId j (d.take i))).set k (.string (nm k))))) = ρ2) := ⟨_, rfl⟩
      rw [HR2.out] at M2 q4 q9 q10 q11
      clear x1 x2 x3 x4 x5 y5 l0 l1 l4 l8 R4 R8 R9 R10 R11
      have HSS : Hid (∀ (w' : World) (ρ' : Lb → Option Rw), Mm w0 w' B ρ' → ρ' (4, 4) = ρ2 (4, 4) → Mp w' mb i D1 vm1 (fun j => hasId j (d.take i)) → w'.cell? ⟨g9, 0, none⟩ = some (.string (nm k)) ∧ w'.cell? ⟨g9, 1, none⟩ = some (.int .i64 k) ∧ w'.cell? ⟨g9, 2, none⟩ = some (.int .i64 rf) ∧
        w'.cell? ⟨g9, 3, none⟩ = some (.int .i64 rc) ∧ (Instr.lookup 143 (.map (some mb)) (.int .i64 k) false).run Yba.prog w' = .ok (vm1 k) w') := fun w' ρ' h e4 hp => ⟨h.cell (e4.trans q4) 0 rfl, h.cell (e4.trans q4) 1 rfl, h.cell (e4.trans q4) 2 rfl, h.cell (e4.trans q4) 3 rfl, hp.look k (by omega)⟩
      have LB : (sel k (d.take i)).length ≤ 4096 := by have h1 := sel_len k (d.take i); rw [List.length_take] at h1; omega
      obtain ⟨e1, HE1⟩ : ∃ e1, Hid (sel k (d.take i) = e1) := ⟨_, rfl⟩
      rw [HE1.out] at LB q11
      have OW : Hid (w2.ownsRow B 29 4 (vm1 k) e1.length (fl Rn.enc e1)) := M2.out.mem.own _ _ q11
      have Q4 : Hid _ := q4
      have Q9 : Hid _ := q9
      have Q10 : Hid _ := q10
      have Q11 : Hid _ := q11
      clear q4 q9 q10 q11
      have lB := M2.out.le
      refine wp_region_late 8 10 (fun w' => w'.cell? ⟨g9, 0, none⟩ = some (.string (nm k)) ∧ w'.cell? ⟨g9, 1, none⟩ = some (.int .i64 k) ∧ w'.cell? ⟨g9, 2, none⟩ = some (.int .i64 rf) ∧
        w'.cell? ⟨g9, 3, none⟩ = some (.int .i64 rc) ∧ (Instr.lookup 143 (.map (some mb)) (.int .i64 k) false).run Yba.prog w' = .ok (vm1 k) w') (by kernel_rfl) (by kernel_rfl) (HSS.out w2.drew ρ2 M2.out.drew rfl (P2.out.kept0 (grown_drew _ _))) ?_
      simp only [List.take_succ_cons, List.take_zero, List.drop_succ_cons, List.drop_zero, Nat.reduceSub]
      repeat (refine wpHead_step (v := ?_) (by rfl) (by intro w hSw; go_simp; try with_reducible rfl) ?_; try simp only [Act.put, List.setIfInBounds_toArray, List.set_cons_zero, List.set_cons_succ])
      refine wpHead_nil ?_
      change wpList _ _ _ _ _ w2.drew
      go_wp2_with fail
      have M2a : Hid (Mm w0 (w2.alloc (.cells #[.string (nm k), .int .i64 k, .int .i64 rf, .int .i64 rc] 29)).drew B ρ2) := (M2.out.alloc _).drew
      have P2a : Hid (Mp (w2.alloc (.cells #[.string (nm k), .int .i64 k, .int .i64 rf, .int .i64 rc] 29)).drew mb i D1 vm1 (fun j => hasId j (d.take i))) := (P2.out.kept0 (World.grownBy_alloc _ _ _)).kept0 (grown_drew _ _)
      refine ⟨HSS.out _ _ M2a.out rfl P2a.out, ?_⟩
      have OW2 : Hid ((w2.alloc (.cells #[.string (nm k), .int .i64 k, .int .i64 rf, .int .i64 rc] 29)).drew.ownsRow B 29 4 (vm1 k) e1.length (fl Rn.enc e1)) := (OW.out.alloc _).drew
      change wpList _ _ _ _ _ _
      go_wp2_with (at_builtin; refine wpList_append_lies _ rfl _ _ 30 rfl B 29 i0 _ 4 40 Yba.underlying30 hi0 hz0 hz1 hz2 rfl (by decide) (vm1 k) e1.length (fl Rn.enc e1) rfl OW2.out ⟨w2.heap.size, 0, none⟩ 1 1 [.string (nm k), .int .i64 k, .int .i64 rf, .int .i64 rc] rfl rfl ?qn ?q1 (by decide) ?q63 ?qb ?qB (w2.heap.size + 1) ?qH ?_)
      case qn => exact World.news_of_block (cs := #[.string (nm k), .int .i64 k, .int .i64 rf, .int .i64 rc]) (t := 29) (fr := (0, 0)) (heap_alloc_new w2 _)
      case q1 => simp [Value.oneCell']
      case q63 => unfold maxLen; omega
      case qb => omega
      case qB => simp; omega
      case qH => simp
      intro gg cap2 w3 hown hgrow hat hlt
      have M3 : Hid (Mm w0 w3 B (upd ρ2 (11, k) (some ⟨.slice (some ⟨gg, 0, none⟩) (e1.length + 1) cap2, 29, 4, e1.length + 1, fl Rn.enc e1 ++ ([.string (nm k), .int .i64 k, .int .i64 rf, .int .i64 rc] : List Value)⟩))) := M2a.out.put Q11.out hgrow hown (fun g hg => by
        cases hg
        rcases hat with h | h
        · exact .inl h
        · right; rw [h]; simp)
      have P3 : Hid (Mp w3 mb i D1 vm1 (fun j => hasId j (d.take i))) := P2a.out.kept hgrow (fun e => M2a.out.notMap P2a.out.1 Q11.out e.symm)
      clear hown hgrow hat hlt
      go_wp2_with fail
      refine ⟨HSS.out _ _ M3.out (upd_other _ _ (by simp)) P3.out, ?_⟩
      change wpList _ _ _ _ _ _
      go_wp2_with (at_mapUpdate; refine wpList_mapUpdate_own _ rfl _ _ _ 143 rfl 3 30 law3 Yba.underlying143 Rd mb i D1 rfl P3.out.1 (by unfold maxLen; omega) _ _ (.int .i64 k) rfl rfl (key3 k (by omega)) (.held (.slice (some ⟨gg, 0, none⟩) (e1.length + 1) cap2)) [] rfl ?_)
      intro w4 hown4 hgrow4
      have M4 : Hid (Mm w0 w4 B (upd ρ2 (11, k) (some ⟨.slice (some ⟨gg, 0, none⟩) (e1.length + 1) cap2, 29, 4, e1.length + 1, fl Rn.enc e1 ++ ([.string (nm k), .int .i64 k, .int .i64 rf, .int .i64 rc] : List Value)⟩))) := M3.out.beside hgrow4 HMB.out (fun l r hl => M3.out.notMap P3.out.1 hl)
      have P4 : Hid (Mp w4 mb (i + 1) (D1.put (.int .i64 k) (.held (.slice (some ⟨gg, 0, none⟩) (e1.length + 1) cap2))) (fun j => if j = k then .slice (some ⟨gg, 0, none⟩) (e1.length + 1) cap2 else vm1 j) (fun j => hasId j (d.take i) || decide (j = k))) := P3.out.put k (by omega) _ hown4
      clear hown4 hgrow4 M3 P3
      go_wp2_with fail
      refine NoPanic.normal ?_
      go_wp2_with fail
      have t4 : upd ρ2 (11, k) (some ⟨.slice (some ⟨gg, 0, none⟩) (e1.length + 1) cap2, 29, 4, e1.length + 1, fl Rn.enc e1 ++ ([.string (nm k), .int .i64 k, .int .i64 rf, .int .i64 rc] : List Value)⟩) (4, 4) = _ := (upd_other _ _ (by simp)).trans Q4.out
      have t9 : upd ρ2 (11, k) (some ⟨.slice (some ⟨gg, 0, none⟩) (e1.length + 1) cap2, 29, 4, e1.length + 1, fl Rn.enc e1 ++ ([.string (nm k), .int .i64 k, .int .i64 rf, .int .i64 rc] : List Value)⟩) (9, 0) = _ := (upd_other _ _ (by simp)).trans Q9.out
      have t10 : upd ρ2 (11, k) (some ⟨.slice (some ⟨gg, 0, none⟩) (e1.length + 1) cap2, 29, 4, e1.length + 1, fl Rn.enc e1 ++ ([.string (nm k), .int .i64 k, .int .i64 rf, .int .i64 rc] : List Value)⟩) (10, k) = _ := (upd_other _ _ (by simp)).trans Q10.out
      obtain ⟨ρ3, HR3⟩ : ∃ ρ3, Hid (upd ρ2 (11, k) (some ⟨.slice (some ⟨gg, 0, none⟩) (e1.length + 1) cap2, 29, 4, e1.length + 1, fl Rn.enc e1 ++ ([.string (nm k), .int .i64 k, .int .i64 rf, .int .i64 rc] : List Value)⟩) = ρ3) := ⟨_, rfl⟩
      rw [HR3.out] at M4 t4 t9 t10
      have HSS2 : Hid (∀ (w' : World) (ρ' : Lb → Option Rw), Mm w0 w' B ρ' → ρ' (4, 4) = ρ3 (4, 4) → ρ' (9, 0) = ρ3 (9, 0) → w'.cell? ⟨g9, 0, none⟩ = some (.string (nm k)) ∧ w'.cell? ⟨g9, 1, none⟩ = some (.int .i64 k) ∧ w'.cell? ⟨g9, 2, none⟩ = some (.int .i64 rf) ∧
        w'.cell? ⟨g9, 3, none⟩ = some (.int .i64 rc) ∧ w'.cell? ⟨sb, k, none⟩ = some (vb1 k)) := fun w' ρ' h e4 e9 => ⟨h.cell (e4.trans t4) 0 rfl, h.cell (e4.trans t4) 1 rfl, h.cell (e4.trans t4) 2 rfl, h.cell (e4.trans t4) 3 rfl, h.cell (e9.trans t9) k (vals_at S vb1 k hkS)⟩
      have LB2 : (rows k ++ sel k (d.take i)).length ≤ 104096 := by have h1 := sel_len k (d.take i); have h2 := HRW.out k; rw [List.length_take] at h1; rw [List.length_append]; omega
      obtain ⟨e2, HE2⟩ : ∃ e2, Hid (rows k ++ sel k (d.take i) = e2) := ⟨_, rfl⟩
      rw [HE2.out] at LB2 t10
      have OW4 : Hid (w4.ownsRow B 29 4 (vb1 k) e2.length (fl Rn.enc e2)) := M4.out.mem.own _ _ t10
      have T9 : Hid _ := t9
      have T10 : Hid _ := t10
      have l9 := M4.out.lt t9
      clear t4 t9 t10
      have lB4 := M4.out.le
      refine wp_region_late 9 11 (fun w' => w'.cell? ⟨g9, 0, none⟩ = some (.string (nm k)) ∧ w'.cell? ⟨g9, 1, none⟩ = some (.int .i64 k) ∧ w'.cell? ⟨g9, 2, none⟩ = some (.int .i64 rf) ∧
        w'.cell? ⟨g9, 3, none⟩ = some (.int .i64 rc) ∧ w'.cell? ⟨sb, k, none⟩ = some (vb1 k)) (by kernel_rfl) (by kernel_rfl) (HSS2.out w4.drew ρ3 M4.out.drew rfl rfl) ?_
      simp only [List.take_succ_cons, List.take_zero, List.drop_succ_cons, List.drop_zero, Nat.reduceSub]
      repeat (refine wpHead_step (v := ?_) (by rfl) (by intro w hSw; go_simp; try with_reducible rfl) ?_; try simp only [Act.put, List.setIfInBounds_toArray, List.set_cons_zero, List.set_cons_succ])
      refine wpHead_nil ?_
      change wpList _ _ _ _ _ w4.drew
      go_wp2_with fail
      have M4a : Hid (Mm w0 (w4.alloc (.cells #[.string (nm k), .int .i64 k, .int .i64 rf, .int .i64 rc] 29)).drew B ρ3) := (M4.out.alloc _).drew
      have P4a : Hid (Mp (w4.alloc (.cells #[.string (nm k), .int .i64 k, .int .i64 rf, .int .i64 rc] 29)).drew mb (i + 1) _ _ _) := (P4.out.kept0 (World.grownBy_alloc _ _ _)).kept0 (grown_drew _ _)
      refine ⟨HSS2.out _ _ M4a.out rfl rfl, ?_⟩
      have OW5 : Hid ((w4.alloc (.cells #[.string (nm k), .int .i64 k, .int .i64 rf, .int .i64 rc] 29)).drew.ownsRow B 29 4 (vb1 k) e2.length (fl Rn.enc e2)) := (OW4.out.alloc _).drew
      change wpList _ _ _ _ _ _
      go_wp2_with (at_builtin; refine wpList_append_lies _ rfl _ _ 30 rfl B 29 i0 _ 4 40 Yba.underlying30 hi0 hz0 hz1 hz2 rfl (by decide) (vb1 k) e2.length (fl Rn.enc e2) rfl OW5.out ⟨w4.heap.size, 0, none⟩ 1 1 [.string (nm k), .int .i64 k, .int .i64 rf, .int .i64 rc] rfl rfl ?qn ?q1 (by decide) ?q63 ?qb ?qB (w4.heap.size + 1) ?qH ?_)
      case qn => exact World.news_of_block (cs := #[.string (nm k), .int .i64 k, .int .i64 rf, .int .i64 rc]) (t := 29) (fr := (0, 0)) (heap_alloc_new w4 _)
      case q1 => simp [Value.oneCell']
      case q63 => unfold maxLen; omega
      case qb => omega
      case qB => simp; omega
      case qH => simp
      intro gh cap3 w5 hown hgrow hat hlt
      have M5 : Hid (Mm w0 w5 B (upd ρ3 (10, k) (some ⟨.slice (some ⟨gh, 0, none⟩) (e2.length + 1) cap3, 29, 4, e2.length + 1, fl Rn.enc e2 ++ ([.string (nm k), .int .i64 k, .int .i64 rf, .int .i64 rc] : List Value)⟩))) := M4a.out.put T10.out hgrow hown (fun g hg => by
        cases hg
        rcases hat with h | h
        · exact .inl h
        · right; rw [h]; simp)
      have P5 : Hid (Mp w5 mb (i + 1) _ _ _) := P4a.out.kept hgrow (fun e => M4a.out.notMap P4a.out.1 T10.out e.symm)
      clear hown hgrow hat hlt
      go_wp2_with fail
      refine ⟨HSS2.out _ _ M5.out (upd_other _ _ (by simp)) (upd_other _ _ (by simp)), ?_⟩
      change wpList _ _ _ _ _ _
      have z9 : upd ρ3 (10, k) (some ⟨.slice (some ⟨gh, 0, none⟩) (e2.length + 1) cap3, 29, 4, e2.length + 1, fl Rn.enc e2 ++ ([.string (nm k), .int .i64 k, .int .i64 rf, .int .i64 rc] : List Value)⟩) (9, 0) = _ := (upd_other _ _ (by simp)).trans T9.out
      have z1 := M5.out.cell z9 k (vals_at S vb1 k hkS)
      have z2 := M5.out.froz z9 k
      have z3 := M5.out.lt z9
      have NSB : Hid (sb ≠ mb) := fun e => by subst e; exact M5.out.notMap P5.out.1 z9 rfl
      have Z9 : Hid _ := z9
      clear z9
      go_wp2_with fail
      refine NoPanic.normal ?_
      go_wp2_with fail
      go_roundw
      case rel =>
        refine ⟨i + 1, fun j => if j = k then .slice (some ⟨gh, 0, none⟩) (e2.length + 1) cap3 else vb1 j, fun j => if j = k then .slice (some ⟨gg, 0, none⟩) (e1.length + 1) cap2 else vm1 j, D1.put (.int .i64 k) (.held (.slice (some ⟨gg, 0, none⟩) (e1.length + 1) cap2)), by go_num, by omega, ?_, ?_⟩
        · show Mm _ _ _ _
          have h := (M5.out.store Z9.out k (.slice (some ⟨gh, 0, none⟩) (e2.length + 1) cap3)).drop (4, 4)
          rw [← HR3.out, ← HR2.out, ← HR1.out, ← HRS.out, ← HE1.out, ← HE2.out, ← HENC.out] at h
          have ts := take_snoc d i hin2
          rw [HR.out] at ts
          have hb : ∀ j : Nat, (r.id = (j : Int)) ↔ j = k := fun j => by rw [HK.out]; omega
          have hb2 : ∀ j : Nat, decide (r.id = (j : Int)) = decide (j = k) := fun j => by simp only [hb j]
          rw [st3_step ρ nb sb S _ (fun j => pr j || hasId j (d.take (i + 1))) vb1 _ (fun j => rows j ++ sel j (d.take (i + 1))) vm1 _ (fun j => sel j (d.take (i + 1))) _ k r _ _ hkS
            (fun j => by rw [ts, hasId_snoc, hb2]; simp [Bool.or_assoc])
            (fun j => by rw [ts, sel_snoc]; simp only [hb j]; by_cases e : j = k <;> simp [e])
            (fun j => by rw [ts, sel_snoc]; simp only [hb j])] at h
          rw [HE2.out, HE1.out] at h
          exact h
        · show Mp _ _ _ _ _ _
          have ts := take_snoc d i hin2
          rw [HR.out] at ts
          have hb : ∀ j : Nat, (r.id = (j : Int)) ↔ j = k := fun j => by rw [HK.out]; omega
          have e : (fun j => hasId j (d.take (i + 1))) = (fun j => hasId j (d.take i) || decide (j = k)) := by
            funext j
            rw [ts, hasId_snoc]; simp only [hb j]
          rw [e]
          exact P5.out.kept (set_grown w5 sb k _) (by simp only [ne_eq, Option.some.injEq]; exact fun e => NSB.out e.symm)
      case measure => simp [RowKit.intOf]; omega
    · go_wp2_with fail
      obtain rfl : i = n := by omega
      have hw := HW.out
      have hp := HP.out
      rw [← HN.out, List.take_length] at hw hp
      have he := HE.out
      rw [HN.out] at he hp
      exact he _ _ _ _ _ _ _ _ _ _ _ _ _ _ _ _ _ _ _ _ _ _ _ _ _ _ _ _ _ _ _ _ _ _ _ _ _ vb1 vm1 D1 _ hw hp

end Go.Proofs.Ybulkebla

