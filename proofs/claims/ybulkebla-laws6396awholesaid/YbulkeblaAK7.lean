import Derived.Test.YbulkeblaAK6
import Derived.Test.YbulkeblaAOrd
/-! The law: a peer's sections in the order of their words. -/
namespace Go.Proofs.Ybulkebla
open Go.RowKit Go.Lib
set_option linter.unusedVariables false
set_option linter.unusedSectionVars false
variable [Inhabited Rn] [Inhabited Hs] [Inhabited Sc]
set_option linter.unusedSimpArgs false

theorem Mm.add {w0 w : World} {B : Nat} {ρ : Lb → Option Rw} (h : Mm w0 w B ρ) (l : Lb) (r : Rw) (ho : w.ownsRow B r.e r.k r.v r.n r.xs) (hat : ∀ l2 r2 g, ρ l2 = some r2 → r2.v.ownBlock = some g → r.v.ownBlock ≠ some g) : Mm w0 w B (upd ρ l (some r)) := by
  refine ⟨⟨fun l2 r2 h2 => ?_, fun l1 l2 r1 r2 g h1 h2 g1 g2 => ?_⟩, h.bel, h.le⟩
  · by_cases e : l2 = l
    · subst e; rw [upd_same] at h2; cases h2; exact ho
    · rw [upd_other _ _ e] at h2; exact h.mem.own l2 r2 h2
  · by_cases e1 : l1 = l <;> by_cases e2 : l2 = l
    · rw [e1, e2]
    · subst e1; rw [upd_same] at h1; cases h1; rw [upd_other _ _ e2] at h2
      exact (hat l2 r2 g h2 g2 g1).elim
    · subst e2; rw [upd_same] at h2; cases h2; rw [upd_other _ _ e1] at h1
      exact (hat l1 r1 g h1 g1 g2).elim
    · rw [upd_other _ _ e1] at h1; rw [upd_other _ _ e2] at h2
      exact h.mem.apart _ _ _ _ g h1 h2 g1 g2
def ordL : List Nat := [3, 5, 1, 4, 0, 2]
def ordN (i : Nat) : Nat := ordL.getD i 0
theorem idx49 (i : Nat) (hi : i < 6) (w : World) : (Instr.index 49 (.agg #[.int .i64 3, .int .i64 5, .int .i64 1, .int .i64 4, .int .i64 0, .int .i64 2]) (.int .i64 (i : Nat))).run Yba.prog w = .ok (.int .i64 (ordN i : Nat)) w := by
  rcases i with _ | _ | _ | _ | _ | _ | i
  · kernel_rfl
  · kernel_rfl
  · kernel_rfl
  · kernel_rfl
  · kernel_rfl
  · kernel_rfl
  · omega
/-- The peer's sections among the first i of the order. -/
structure Wsl (S : Nat) (brow : Nat → List Rn) (i : Nat) (l : List Sc) : Prop where
  ids : l.map Sc.id = (ordL.take i).filter fun k => decide (k < S) && !(brow k).isEmpty
  it : ∀ c ∈ l, ∃ acc, SameSp (brow c.id) acc ∧ c.items = tot acc
theorem ordN_lt (i : Nat) : ordN i < 6 := by
  unfold ordN ordL
  rcases i with _ | _ | _ | _ | _ | _ | i <;> simp
theorem ord_take (i : Nat) (hi : i < 6) : ordL.take (i + 1) = ordL.take i ++ [ordN i] := by
  rcases i with _ | _ | _ | _ | _ | _ | i <;> first | rfl | omega
theorem Wsl.skip {S : Nat} {brow : Nat → List Rn} {i : Nat} {l : List Sc} (h : Wsl S brow i l) (hi : i < 6) (hs : S ≤ ordN i ∨ brow (ordN i) = []) : Wsl S brow (i + 1) l := by
  refine ⟨?_, h.it⟩
  rw [ord_take i hi, List.filter_append, h.ids]
  rcases hs with hs | hs
  · have : ¬ ordN i < S := by omega
    simp [this]
  · simp [hs]
theorem Wsl.more {S : Nat} {brow : Nat → List Rn} {i : Nat} {l : List Sc} (h : Wsl S brow i l) (hi : i < 6) (h1 : ordN i < S) (h2 : brow (ordN i) ≠ []) (acc : List Sp) (ha : SameSp (brow (ordN i)) acc) : Wsl S brow (i + 1) (l ++ [⟨ordN i, tot acc⟩]) := by
  refine ⟨?_, fun c hc => ?_⟩
  · rw [ord_take i hi, List.filter_append, List.map_append, h.ids]
    simp [h1, h2]
  · rcases List.mem_append.1 hc with hc | hc
    · exact h.it c hc
    · simp at hc; subst hc; exact ⟨acc, ha, rfl⟩

set_option maxHeartbeats 4000000 in
set_option maxRecDepth 100000 in
theorem order {c0 c1 c2 c3 c4 c5 c6 c7 c8 c9 c11 c12 c13 c14 c15 c16 c17 c18 c19 c20 c21 c22 c23 c25 c26 c27 c28 c29 c30 c31 c32 c34 c35 c37 c38 c39 c40 c41 c42 c43 c44 c45 c46 c47 c48 c49 c50 c51 c52 c53 c54 c55 c56 c57 c58 c59 c60 c61 c62 c63 c64 c65 c66 c67 c68 c69 c70 c71 c72 c73 c74 c75 c76 c77 c78 c79 c80 c81 c82 c83 c84 c85 c86 c87 c88 c89 c90 c91 c92 c93 c94 c95 c96 c97 c98 c99 c100 c101 c102 c103 c104 c105 c106 c107 c108 c109 c110 c111 c112 c113 c114 c115 c116 c117 c118 c119 c120 c121 c122 c123 c124 c125 c126 c127 c128 c129 c130 c131 c132 c133 c134 c135 c136 c137 c138 c139 c140 c141 c142 c143 c144 c145 c146 c147 c148 c149 c150 c151 c152 c153 c154 c155 c156 c157 c158 c159 c160 c161 c162 c163 c164 c165 c166 c167 c168 c169 c170 c171 c172 c173 c174 c175 c176 c177 c178 c179 c180 c181 c182 c183 c184 c185 c186 c187 c188 c189 c190 c191 c192 c193 c194 c195 c196 c197 c198 c199 c200 c201 c202 c203 c204 c205 c206 c207 c208 c209 c210 c211 c212 c213 c214 c215 c216 c217 c218 c219 c220 c221 c222 c223 c224 c225 c226 c227 c228 c229 c230 c231 c232 c233 c234 c235 c236 c237 c238 c239 c240 c241 c242 c243 c244 c245 c246 c247 c248 c249 c250 c251 c252 c253 c254 c255 c256 c257 c258 c259 c260 c261 c262 c263 c264 c265 c266 c267 c268 c269 c270 c271 c272 c273 c274 c275 c276 c277 c278 c279 c280 c281 c282 c283 c284 c285 c286 c287 c288 c289 c290 c291 c292 c293 c294 c295 c296 c297 c298 c299 c300 c301 c302 c303 c304 c305 c306 c307 c308 c309 c310 c311 c312 c313 c314 c315 c316 c317 c318 c319 c322 c323 c324 c325 c326 c327 c328 c329 c330 c331 c332 c333 c334 c335 c336 c337 c338 c339 c340 c341 c342 c343 c344 c345 c346 c347 c348 c349 c350 c351 c352 c353 c354 c355 c356 c357 c358 c359 c360 c361 c362 c363 c364 c365 c366 c367 c368 c369 c370 c371 c372 c373 c374 c375 c376 c377 c378 c379 c380 c381 c382 c383 c384 c385 c386 c387 c388 c389 c390 c391 c392 c393 c394 c395 c396 c397 c398 c399 c400 c401 c402 c403 c404 c405 c406 c407 c408 c409 c410 c411 c412 c413 c414 c415 c416 c417 c418 c419 c420 c421 c422 c423 c424 c425 c426 c427 c428 c429 c430 c431 c432 c433 c434 c435 c436 c437 c438 c439 c440 c441 c442 c443 c444 c445 c446 c447 c448 c449 c450 c451 c452 c453 c454 c455 c456 c457 c458 c459 c460 c461 c462 c463 c464 c465 c466 c467 c468 c469 c470 c471 c472 c473 c474 c475 c476 c477 c478 c479 c480 c481 c482 c483 c484 c485 c486 c487 c488 c489 c490 c491 c492 c493 c494 c495 c496 c497 c498 c499 c500 c501 c502 c503 c504 c505 c506 c507 c508 c509 c510 c511 c512 : Value} (w0 w : World) (B : Nat) (ρ : Lb → Option Rw) (mk bb S : Nat) (vq : Nat → Value) (brow : Nat → List Rn) (hM : Mm w0 w B ρ) (hS : S ≤ 6) (hb : ∀ k, (brow k).length ≤ 4096 ∧ Fine S (brow k))
    (h30 : ρ (30, 0) = some (bk mk 4 1 65600 65600 marks)) (h35 : ρ (35, 0) = some (bk bb 30 1 S S (vals S vq))) (h36 : ∀ k, k < S → ρ (36, k) = some ⟨vq k, 29, 4, (brow k).length, fl Rn.enc (brow k)⟩) (h37 : ρ (37, 0) = none) (Q : Exit → Act → World → Prop)
    (hexit : ∀ (u38 u39 u40 u321 u322 u323 u324 u325 u326 u327 u328 u329 u330 u331 u332 u333 u334 u335 u336 u337 u338 u339 u340 u341 u342 u343 u344 u345 u346 u347 u348 u349 u350 : Value) (vW : Value) (l : List Sc) (w' : World), Mm w0 w' B (upd ρ (37, 0) (some ⟨vW, 56, 2, l.length, fl Sc.enc l⟩)) → Wsl S brow 6 l → (l = [] → vW = .slice none 0 0) → Q .normal ⟨#[c0, c1, c2, c3, c4, c5, c6, c7, c8, c9, .int .i64 (S : Nat), c11, c12, c13, c14, c15, c16, c17, c18, c19, c20, c21, c22, c23, .slice (some ⟨mk, 0, none⟩) 65600 65600, c25, c26, c27, c28, c29, c30, c31, c32, .slice (some ⟨bb, 0, none⟩) S S, c34, c35, vW, c37, u38, u39, u40, c41, c42, c43, c44, c45, c46, c47, c48, c49, c50, c51, c52, c53, c54, c55, c56, c57, c58, c59, c60, c61, c62, c63, c64, c65, c66, c67, c68, c69, c70, c71, c72, c73, c74, c75, c76, c77, c78, c79, c80, c81, c82, c83, c84, c85, c86, c87, c88, c89, c90, c91, c92, c93, c94, c95, c96, c97, c98, c99, c100, c101, c102, c103, c104, c105, c106, c107, c108, c109, c110, c111, c112, c113, c114, c115, c116, c117, c118, c119, c120, c121, c122, c123, c124, c125, c126, c127, c128, c129, c130, c131, c132, c133, c134, c135, c136, c137, c138, c139, c140, c141, c142, c143, c144, c145, c146, c147, c148, c149, c150, c151, c152, c153, c154, c155, c156, c157, c158, c159, c160, c161, c162, c163, c164, c165, c166, c167, c168, c169, c170, c171, c172, c173, c174, c175, c176, c177, c178, c179, c180, c181, c182, c183, c184, c185, c186, c187, c188, c189, c190, c191, c192, c193, c194, c195, c196, c197, c198, c199, c200, c201, c202, c203, c204, c205, c206, c207, c208, c209, c210, c211, c212, c213, c214, c215, c216, c217, c218, c219, c220, c221, c222, c223, c224, c225, c226, c227, c228, c229, c230, c231, c232, c233, c234, c235, c236, c237, c238, c239, c240, c241, c242, c243, c244, c245, c246, c247, c248, c249, c250, c251, c252, c253, c254, c255, c256, c257, c258, c259, c260, c261, c262, c263, c264, c265, c266, c267, c268, c269, c270, c271, c272, c273, c274, c275, c276, c277, c278, c279, c280, c281, c282, c283, c284, c285, c286, c287, c288, c289, c290, c291, c292, c293, c294, c295, c296, c297, c298, c299, c300, c301, c302, c303, c304, c305, c306, c307, c308, c309, c310, c311, c312, c313, c314, c315, c316, c317, c318, c319, .agg #[.int .i64 3, .int .i64 5, .int .i64 1, .int .i64 4, .int .i64 0, .int .i64 2], u321, u322, u323, u324, u325, u326, u327, u328, u329, u330, u331, u332, u333, u334, u335, u336, u337, u338, u339, u340, u341, u342, u343, u344, u345, u346, u347, u348, u349, u350, c351, c352, c353, c354, c355, c356, c357, c358, c359, c360, c361, c362, c363, c364, c365, c366, c367, c368, c369, c370, c371, c372, c373, c374, c375, c376, c377, c378, c379, c380, c381, c382, c383, c384, c385, c386, c387, c388, c389, c390, c391, c392, c393, c394, c395, c396, c397, c398, c399, c400, c401, c402, c403, c404, c405, c406, c407, c408, c409, c410, c411, c412, c413, c414, c415, c416, c417, c418, c419, c420, c421, c422, c423, c424, c425, c426, c427, c428, c429, c430, c431, c432, c433, c434, c435, c436, c437, c438, c439, c440, c441, c442, c443, c444, c445, c446, c447, c448, c449, c450, c451, c452, c453, c454, c455, c456, c457, c458, c459, c460, c461, c462, c463, c464, c465, c466, c467, c468, c469, c470, c471, c472, c473, c474, c475, c476, c477, c478, c479, c480, c481, c482, c483, c484, c485, c486, c487, c488, c489, c490, c491, c492, c493, c494, c495, c496, c497, c498, c499, c500, c501, c502, c503, c504, c505, c506, c507, c508, c509, c510, c511, c512], []⟩ w') :
    Code.wp Yba.prog (pick [true, true, true, true, true, true, true, true, true, true, true, true, true, true, true, true, false, true, false, false, true, false, false, true, true, true, true, true, true, false, true] (Yba.f3.body.getD .skip)) Q ⟨#[c0, c1, c2, c3, c4, c5, c6, c7, c8, c9, .int .i64 (S : Nat), c11, c12, c13, c14, c15, c16, c17, c18, c19, c20, c21, c22, c23, .slice (some ⟨mk, 0, none⟩) 65600 65600, c25, c26, c27, c28, c29, c30, c31, c32, .slice (some ⟨bb, 0, none⟩) S S, c34, c35, .slice none 0 0, c37, c38, c39, c40, c41, c42, c43, c44, c45, c46, c47, c48, c49, c50, c51, c52, c53, c54, c55, c56, c57, c58, c59, c60, c61, c62, c63, c64, c65, c66, c67, c68, c69, c70, c71, c72, c73, c74, c75, c76, c77, c78, c79, c80, c81, c82, c83, c84, c85, c86, c87, c88, c89, c90, c91, c92, c93, c94, c95, c96, c97, c98, c99, c100, c101, c102, c103, c104, c105, c106, c107, c108, c109, c110, c111, c112, c113, c114, c115, c116, c117, c118, c119, c120, c121, c122, c123, c124, c125, c126, c127, c128, c129, c130, c131, c132, c133, c134, c135, c136, c137, c138, c139, c140, c141, c142, c143, c144, c145, c146, c147, c148, c149, c150, c151, c152, c153, c154, c155, c156, c157, c158, c159, c160, c161, c162, c163, c164, c165, c166, c167, c168, c169, c170, c171, c172, c173, c174, c175, c176, c177, c178, c179, c180, c181, c182, c183, c184, c185, c186, c187, c188, c189, c190, c191, c192, c193, c194, c195, c196, c197, c198, c199, c200, c201, c202, c203, c204, c205, c206, c207, c208, c209, c210, c211, c212, c213, c214, c215, c216, c217, c218, c219, c220, c221, c222, c223, c224, c225, c226, c227, c228, c229, c230, c231, c232, c233, c234, c235, c236, c237, c238, c239, c240, c241, c242, c243, c244, c245, c246, c247, c248, c249, c250, c251, c252, c253, c254, c255, c256, c257, c258, c259, c260, c261, c262, c263, c264, c265, c266, c267, c268, c269, c270, c271, c272, c273, c274, c275, c276, c277, c278, c279, c280, c281, c282, c283, c284, c285, c286, c287, c288, c289, c290, c291, c292, c293, c294, c295, c296, c297, c298, c299, c300, c301, c302, c303, c304, c305, c306, c307, c308, c309, c310, c311, c312, c313, c314, c315, c316, c317, c318, c319, .agg #[.int .i64 3, .int .i64 5, .int .i64 1, .int .i64 4, .int .i64 0, .int .i64 2], .int .i64 0, c322, c323, c324, c325, c326, c327, c328, c329, c330, c331, c332, c333, c334, c335, c336, c337, c338, c339, c340, c341, c342, c343, c344, c345, c346, c347, c348, c349, c350, c351, c352, c353, c354, c355, c356, c357, c358, c359, c360, c361, c362, c363, c364, c365, c366, c367, c368, c369, c370, c371, c372, c373, c374, c375, c376, c377, c378, c379, c380, c381, c382, c383, c384, c385, c386, c387, c388, c389, c390, c391, c392, c393, c394, c395, c396, c397, c398, c399, c400, c401, c402, c403, c404, c405, c406, c407, c408, c409, c410, c411, c412, c413, c414, c415, c416, c417, c418, c419, c420, c421, c422, c423, c424, c425, c426, c427, c428, c429, c430, c431, c432, c433, c434, c435, c436, c437, c438, c439, c440, c441, c442, c443, c444, c445, c446, c447, c448, c449, c450, c451, c452, c453, c454, c455, c456, c457, c458, c459, c460, c461, c462, c463, c464, c465, c466, c467, c468, c469, c470, c471, c472, c473, c474, c475, c476, c477, c478, c479, c480, c481, c482, c483, c484, c485, c486, c487, c488, c489, c490, c491, c492, c493, c494, c495, c496, c497, c498, c499, c500, c501, c502, c503, c504, c505, c506, c507, c508, c509, c510, c511, c512], []⟩ w := by
  have HM : Hid (Mm w0 w B ρ) := hM
  have H30 : Hid (ρ (30, 0) = some (bk mk 4 1 65600 65600 marks)) := h30
  have H35 : Hid (ρ (35, 0) = some (bk bb 30 1 S S (vals S vq))) := h35
  have H36 : Hid (∀ k, k < S → ρ (36, k) = some ⟨vq k, 29, 4, (brow k).length, fl Rn.enc (brow k)⟩) := h36
  have H37 : Hid (ρ (37, 0) = none) := h37
  have HB : Hid (∀ k, (brow k).length ≤ 4096 ∧ Fine S (brow k)) := hb
  have HE : Hid (∀ (u38 u39 u40 u321 u322 u323 u324 u325 u326 u327 u328 u329 u330 u331 u332 u333 u334 u335 u336 u337 u338 u339 u340 u341 u342 u343 u344 u345 u346 u347 u348 u349 u350 : Value) (vW : Value) (l : List Sc) (w' : World), Mm w0 w' B (upd ρ (37, 0) (some ⟨vW, 56, 2, l.length, fl Sc.enc l⟩)) → Wsl S brow 6 l → (l = [] → vW = .slice none 0 0) → Q .normal ⟨#[c0, c1, c2, c3, c4, c5, c6, c7, c8, c9, .int .i64 (S : Nat), c11, c12, c13, c14, c15, c16, c17, c18, c19, c20, c21, c22, c23, .slice (some ⟨mk, 0, none⟩) 65600 65600, c25, c26, c27, c28, c29, c30, c31, c32, .slice (some ⟨bb, 0, none⟩) S S, c34, c35, vW, c37, u38, u39, u40, c41, c42, c43, c44, c45, c46, c47, c48, c49, c50, c51, c52, c53, c54, c55, c56, c57, c58, c59, c60, c61, c62, c63, c64, c65, c66, c67, c68, c69, c70, c71, c72, c73, c74, c75, c76, c77, c78, c79, c80, c81, c82, c83, c84, c85, c86, c87, c88, c89, c90, c91, c92, c93, c94, c95, c96, c97, c98, c99, c100, c101, c102, c103, c104, c105, c106, c107, c108, c109, c110, c111, c112, c113, c114, c115, c116, c117, c118, c119, c120, c121, c122, c123, c124, c125, c126, c127, c128, c129, c130, c131, c132, c133, c134, c135, c136, c137, c138, c139, c140, c141, c142, c143, c144, c145, c146, c147, c148, c149, c150, c151, c152, c153, c154, c155, c156, c157, c158, c159, c160, c161, c162, c163, c164, c165, c166, c167, c168, c169, c170, c171, c172, c173, c174, c175, c176, c177, c178, c179, c180, c181, c182, c183, c184, c185, c186, c187, c188, c189, c190, c191, c192, c193, c194, c195, c196, c197, c198, c199, c200, c201, c202, c203, c204, c205, c206, c207, c208, c209, c210, c211, c212, c213, c214, c215, c216, c217, c218, c219, c220, c221, c222, c223, c224, c225, c226, c227, c228, c229, c230, c231, c232, c233, c234, c235, c236, c237, c238, c239, c240, c241, c242, c243, c244, c245, c246, c247, c248, c249, c250, c251, c252, c253, c254, c255, c256, c257, c258, c259, c260, c261, c262, c263, c264, c265, c266, c267, c268, c269, c270, c271, c272, c273, c274, c275, c276, c277, c278, c279, c280, c281, c282, c283, c284, c285, c286, c287, c288, c289, c290, c291, c292, c293, c294, c295, c296, c297, c298, c299, c300, c301, c302, c303, c304, c305, c306, c307, c308, c309, c310, c311, c312, c313, c314, c315, c316, c317, c318, c319, .agg #[.int .i64 3, .int .i64 5, .int .i64 1, .int .i64 4, .int .i64 0, .int .i64 2], u321, u322, u323, u324, u325, u326, u327, u328, u329, u330, u331, u332, u333, u334, u335, u336, u337, u338, u339, u340, u341, u342, u343, u344, u345, u346, u347, u348, u349, u350, c351, c352, c353, c354, c355, c356, c357, c358, c359, c360, c361, c362, c363, c364, c365, c366, c367, c368, c369, c370, c371, c372, c373, c374, c375, c376, c377, c378, c379, c380, c381, c382, c383, c384, c385, c386, c387, c388, c389, c390, c391, c392, c393, c394, c395, c396, c397, c398, c399, c400, c401, c402, c403, c404, c405, c406, c407, c408, c409, c410, c411, c412, c413, c414, c415, c416, c417, c418, c419, c420, c421, c422, c423, c424, c425, c426, c427, c428, c429, c430, c431, c432, c433, c434, c435, c436, c437, c438, c439, c440, c441, c442, c443, c444, c445, c446, c447, c448, c449, c450, c451, c452, c453, c454, c455, c456, c457, c458, c459, c460, c461, c462, c463, c464, c465, c466, c467, c468, c469, c470, c471, c472, c473, c474, c475, c476, c477, c478, c479, c480, c481, c482, c483, c484, c485, c486, c487, c488, c489, c490, c491, c492, c493, c494, c495, c496, c497, c498, c499, c500, c501, c502, c503, c504, c505, c506, c507, c508, c509, c510, c511, c512], []⟩ w') := hexit
  clear hM h30 h35 h36 h37 hb hexit
  obtain ⟨i0, hi0, hz0, hz1, hz2⟩ := info_parts info56'
  conv => arg 2; whnf
  go_wp2_with fail
  go_loopw [36, 321] (fun u36 v321 wr => ∃ (i : Nat) (l : List Sc), v321 = .int .i64 i ∧ i ≤ 6 ∧ l.length ≤ i ∧ Hid (Mm w0 wr B (upd ρ (37, 0) (some ⟨u36, 56, 2, l.length, fl Sc.enc l⟩))) ∧ Hid (Wsl S brow i l) ∧ Hid (l = [] → u36 = .slice none 0 0)) (fun _ v321 _ => 6 - (RowKit.intOf v321).toNat)
  case atStart =>
    refine ⟨0, [], rfl, by omega, by simp, ?_, ⟨rfl, fun c h => by cases h⟩, fun _ => rfl⟩
    show Mm _ _ _ _
    exact HM.out.add (37, 0) _ (World.ownsRow_nil _ _ _ _) (fun l2 r2 g _ _ => by simp [Value.ownBlock])
  case round =>
    obtain ⟨i, l, hv321, hi, hll, HW, HL, HV⟩ := hrel
    subst hv321
    by_cases hin : i < 6
    · have hx := fun w => idx49 i hin w
      obtain ⟨o, HO⟩ : ∃ o, Hid (ordN i = o) := ⟨_, rfl⟩
      rw [HO.out] at hx
      have ho6 : o < 6 := by rw [← HO.out]; exact ordN_lt i
      have hil : (i : Int) < 6 := by omega
      by_cases hoS : S ≤ o
      · have d1 : (S : Int) ≤ (o : Int) := by omega
        go_wp2_with fail
        go_roundw
        case rel => exact ⟨i + 1, l, by go_num, by omega, by omega, HW.out, HL.out.skip hin (.inl (by rw [HO.out]; exact hoS)), HV.out⟩
        case measure => simp [RowKit.intOf]; omega
      · have hoS' : o < S := by omega
        have q35 : (upd ρ (37, 0) (some ⟨u36, 56, 2, l.length, fl Sc.enc l⟩)) (35, 0) = some (bk bb 30 1 S S (vals S vq)) := (upd_other _ _ (by simp)).trans H35.out
        have q36 : (upd ρ (37, 0) (some ⟨u36, 56, 2, l.length, fl Sc.enc l⟩)) (36, o) = some ⟨vq o, 29, 4, (brow o).length, fl Rn.enc (brow o)⟩ := (upd_other _ _ (by simp)).trans (H36.out o hoS')
        obtain ⟨a, c, hf⟩ := own_form (HW.out.mem.own _ _ q36)
        simp only at hf
        have k0 : wr.cell? ⟨bb, o, none⟩ = some (.slice a (brow o).length c) := by rw [← hf]; exact HW.out.cell q35 o (vals_at S vq o hoS')
        have l0 := HW.out.lt q35
        have Q36 : Hid ((upd ρ (37, 0) (some ⟨u36, 56, 2, l.length, fl Sc.enc l⟩)) (36, o) = some ⟨.slice a (brow o).length c, 29, 4, (brow o).length, fl Rn.enc (brow o)⟩) := by show _ = _; rw [q36, hf]
        clear q35 q36 hf
        have hp1 : (0 : Int) ≤ (o : Int) := Int.natCast_nonneg _
        have hp2 : (o : Int) < (S : Int) := by omega
        have hp3 : ¬ (S : Int) ≤ (o : Int) := by omega
        have hp4 : decide ((S : Int) ≤ (o : Int)) = false := by simp; omega
        by_cases hb0 : brow o = []
        · have hbl : (brow o).length = 0 := by rw [hb0]; rfl
          rw [hbl] at k0
          go_wp2_with fail
          go_roundw
          case rel => exact ⟨i + 1, l, by go_num, by omega, by omega, HW.out, HL.out.skip hin (.inr (by rw [HO.out]; exact hb0)), HV.out⟩
          case measure => simp [RowKit.intOf]; omega
        · obtain ⟨m, hm⟩ : ∃ m, (brow o).length = m + 1 := ⟨(brow o).length - 1, by have := List.length_pos_iff.2 hb0; omega⟩
          rw [hm] at k0
          have HMl : Hid ((brow o).length = m + 1) := hm
          clear hm
          have hne0 : (((m : Int) + 1) == 0) = false := by simp; omega
          go_wp2_with fail
          have q30 : (upd ρ (37, 0) (some ⟨u36, 56, 2, l.length, fl Sc.enc l⟩)) (30, 0) = some (bk mk 4 1 65600 65600 marks) := (upd_other _ _ (by simp)).trans H30.out
          have hbo := HB.out o
          have CU := unionOwn B S mk (.slice a (brow o).length c) (brow o) wr hbo.1 (HW.out.mem.own _ _ Q36.out) (HW.out.mem.own _ _ q30) (HW.out.apart Q36.out q30 (by simp) rfl) hbo.2
          rw [HMl.out] at CU
          have HCU : Hid _ := CU
          clear CU hbo
          refine Calls.mono HCU.out ?_
          rintro e w2 ⟨a2, c2, acc, rfl, _, hmk, hgr, hsame, _⟩
          have M2 : Hid (Mm w0 w2 B (upd ρ (37, 0) (some ⟨u36, 56, 2, l.length, fl Sc.enc l⟩))) := by
            have h := HW.out.put q30 hgr hmk (fun g hg => .inl hg)
            rw [upd_self _ _ _ q30] at h
            exact h
          have HSA : Hid (SameSp (brow o) acc) := hsame
          clear hmk hgr hsame q30 HCU k0 l0
          obtain ⟨t, HTt⟩ : ∃ t, Hid (tot acc = t) := ⟨_, rfl⟩
          rw [HTt.out]
          have OW : Hid (w2.ownsRow B 56 2 u36 l.length (fl Sc.enc l)) := M2.out.mem.own _ _ (upd_same _ _ _)
          have lB := M2.out.le
          go_wp2_with (at_builtin; refine wpList_append_lies _ rfl _ _ 54 rfl B 56 i0 _ 2 16 Yba.underlying54 hi0 hz0 hz1 hz2 rfl (by decide) u36 l.length (fl Sc.enc l) rfl (OW.out.alloc _) ⟨w2.heap.size, 0, none⟩ 1 1 [.int .i64 o, .int .i64 t] rfl rfl ?qn ?q1 (by decide) ?q63 ?qb ?qB (w2.heap.size + 1) ?qH ?_)
          case qn => exact World.news_of_block (cs := #[.int .i64 o, .int .i64 t]) (t := 56) (fr := (0, 0)) (heap_alloc_new w2 _)
          case q1 => simp [Value.oneCell']
          case q63 => unfold maxLen; omega
          case qb => omega
          case qB => simp; omega
          case qH => simp
          intro gg cap2 w3 hown hgrow hat hlt
          have M3 : Hid (Mm w0 w3 B (upd (upd ρ (37, 0) (some ⟨u36, 56, 2, l.length, fl Sc.enc l⟩)) (37, 0) (some ⟨.slice (some ⟨gg, 0, none⟩) (l.length + 1) cap2, 56, 2, l.length + 1, fl Sc.enc l ++ ([.int .i64 o, .int .i64 t] : List Value)⟩))) := (M2.out.alloc _).put (upd_same _ _ _) hgrow hown (fun g hg => by
            cases hg
            rcases hat with h | h
            · exact .inl h
            · right; rw [h]; simp)
          clear hown hgrow hat hlt
          go_wp2_with fail
          go_roundw
          case rel =>
            refine ⟨i + 1, l ++ [⟨o, t⟩], by go_num, by omega, by simp; omega, ?_, ?_, fun e => by simp at e⟩
            · show Mm _ _ _ _
              have h := M3.out
              rw [upd_upd] at h
              rw [fl_append, fl_one, List.length_append]
              exact h
            · have h := HL.out.more hin (by rw [HO.out]; exact hoS') (by rw [HO.out]; exact hb0) acc (by rw [HO.out]; exact HSA.out)
              rw [HO.out, HTt.out] at h
              exact h
          case measure => simp [RowKit.intOf]; omega
    · go_wp2_with fail
      obtain rfl : i = 6 := by omega
      exact HE.out _ _ _ _ _ _ _ _ _ _ _ _ _ _ _ _ _ _ _ _ _ _ _ _ _ _ _ _ _ _ _ _ _ u36 l _ HW.out HL.out HV.out

end Go.Proofs.Ybulkebla

