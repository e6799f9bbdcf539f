import Derived.Test.YbulkeblaAPl
/-! The law: per peer: held, the sections. -/
namespace Go.Proofs.Ybulkebla
open Go.RowKit Go.Lib
set_option linter.unusedVariables false
set_option linter.unusedSectionVars false
variable [Inhabited Rn] [Inhabited Hs] [Inhabited Sc]
set_option linter.unusedSimpArgs false

def stP (ρ : Lb → Option Rw) (pb S : Nat) (vS : Value) (bs : List Hs) (vp : Nat → Value) (prow : Nat → List Rn) : Lb → Option Rw := fun l =>
  if l.1 = 34 then if l.2 < S then some ⟨vp l.2, 29, 4, (prow l.2).length, fl Rn.enc (prow l.2)⟩ else none
  else if l.1 = 36 then none
  else if l = (33, 0) then some (bk pb 30 1 S S (vals S vp))
  else if l = (32, 0) then some ⟨vS, 35, 3, bs.length, fl Hs.enc bs⟩
  else if l = (35, 0) then none
  else if l = (37, 0) then none
  else if l = (20, 0) then none
  else if l = (4, 3) then none
  else if l = (4, 4) then none
  else ρ l
theorem stP_other {ρ : Lb → Option Rw} {pb S : Nat} {vS : Value} {bs : List Hs} {vp : Nat → Value} {prow : Nat → List Rn} {l : Lb} (h1 : l.1 ≠ 34) (h2 : l.1 ≠ 36) (h3 : l ≠ (33, 0)) (h4 : l ≠ (32, 0)) (h5 : l ≠ (35, 0)) (h6 : l ≠ (37, 0)) (h7 : l ≠ (20, 0)) (h8 : l ≠ (4, 3)) (h9 : l ≠ (4, 4)) : stP ρ pb S vS bs vp prow l = ρ l := by
  simp [stP, h1, h2, h3, h4, h5, h6, h7, h8, h9]
theorem stP_weak (ρ : Lb → Option Rw) (pb bb S : Nat) (vS vS' : Value) (bs bs' : List Hs) (vp vp' vq : Nat → Value) (prow prow' brow : Nat → List Rn) (x y z u : Option Rw) (l : Lb) :
    stP ρ pb S vS' bs' vp' prow' l = upd (stG (upd (upd (upd (upd (stP ρ pb S vS bs vp prow) (20, 0) x) (4, 3) none) (32, 0) (some ⟨vS', 35, 3, bs'.length, fl Hs.enc bs'⟩)) (35, 0) y) pb bb S vp' vq prow' brow) (37, 0) u l ∨ stP ρ pb S vS' bs' vp' prow' l = none := by
  obtain ⟨a, b⟩ := l
  by_cases h34 : a = 34
  · subst h34; left; simp [stP, stG, upd]
  by_cases h36 : a = 36
  · subst h36; right; simp [stP]
  by_cases h33 : a = 33 ∧ b = 0
  · obtain ⟨rfl, rfl⟩ := h33; left; simp [stP, stG, upd]
  by_cases h32 : a = 32 ∧ b = 0
  · obtain ⟨rfl, rfl⟩ := h32; left; simp [stP, stG, upd]
  by_cases h35 : a = 35 ∧ b = 0
  · obtain ⟨rfl, rfl⟩ := h35; right; simp [stP]
  by_cases h37 : a = 37 ∧ b = 0
  · obtain ⟨rfl, rfl⟩ := h37; right; simp [stP]
  by_cases h20 : a = 20 ∧ b = 0
  · obtain ⟨rfl, rfl⟩ := h20; right; simp [stP]
  by_cases h43 : a = 4 ∧ b = 3
  · obtain ⟨rfl, rfl⟩ := h43; right; simp [stP]
  by_cases h44 : a = 4 ∧ b = 4
  · obtain ⟨rfl, rfl⟩ := h44; right; simp [stP]
  left; simp [stP, stG, upd, h34, h36, h33, h32, h35, h37, h20, h43, h44]
theorem range_flat {α : Type} (f : Nat → List α) (p : Nat) : (List.range (p + 1)).flatMap f = (List.range p).flatMap f ++ f p := by
  rw [List.range_succ, List.flatMap_append]; simp

set_option maxHeartbeats 8000000 in
set_option maxRecDepth 100000 in
theorem perPeer {c0 c1 c2 c3 c4 c5 c6 c7 c8 c11 c13 c14 c15 c16 c17 c19 c20 c21 c22 c23 c29 c30 c31 c32 c33 c34 c35 c36 c37 c38 c39 c40 c41 c42 c43 c44 c45 c46 c47 c48 c49 c50 c51 c52 c53 c54 c55 c56 c57 c58 c59 c60 c61 c62 c63 c64 c65 c66 c67 c68 c69 c70 c71 c72 c73 c74 c75 c76 c77 c78 c79 c80 c81 c82 c83 c84 c85 c86 c87 c88 c89 c90 c91 c92 c93 c94 c95 c96 c97 c98 c99 c100 c101 c102 c103 c104 c105 c106 c107 c108 c109 c110 c111 c112 c113 c114 c115 c116 c117 c118 c119 c120 c121 c122 c123 c124 c125 c126 c127 c128 c129 c130 c131 c132 c133 c134 c135 c136 c137 c138 c139 c140 c141 c142 c143 c144 c145 c146 c147 c148 c149 c150 c151 c152 c153 c154 c155 c156 c157 c158 c159 c160 c161 c162 c163 c164 c165 c166 c167 c168 c169 c170 c171 c172 c173 c174 c175 c176 c177 c178 c179 c180 c181 c182 c183 c184 c185 c186 c187 c188 c189 c190 c191 c192 c193 c194 c195 c196 c197 c198 c199 c200 c201 c202 c203 c204 c205 c206 c207 c208 c209 c210 c211 c212 c213 c214 c215 c216 c217 c218 c219 c220 c221 c222 c223 c224 c225 c226 c227 c228 c229 c230 c231 c232 c233 c234 c235 c236 c237 c238 c239 c240 c241 c242 c243 c244 c245 c246 c247 c248 c249 c250 c251 c252 c253 c254 c255 c256 c257 c258 c259 c260 c261 c262 c263 c264 c265 c266 c267 c268 c269 c270 c271 c272 c273 c274 c275 c276 c277 c278 c279 c280 c281 c282 c283 c284 c285 c286 c287 c288 c289 c290 c291 c292 c293 c294 c295 c296 c297 c298 c299 c300 c301 c302 c303 c304 c305 c306 c307 c308 c309 c310 c311 c312 c313 c314 c315 c316 c317 c318 c319 c320 c321 c322 c323 c324 c325 c326 c327 c328 c329 c330 c331 c332 c333 c334 c335 c336 c337 c338 c339 c340 c341 c342 c343 c344 c345 c346 c347 c348 c349 c350 c351 c352 c353 c354 c355 c356 c357 c358 c359 c360 c361 c362 c363 c364 c365 c366 c367 c368 c369 c370 c371 c372 c373 c374 c375 c376 c377 c378 c379 c380 c381 c382 c383 c384 c385 c386 c387 c388 c389 c390 c391 c392 c393 c394 c395 c396 c397 c398 c399 c400 c401 c402 c403 c404 c405 c406 c407 c408 c409 c410 c411 c412 c413 c414 c415 c416 c417 c418 c419 c420 c421 c422 c423 c424 c425 c426 c427 c428 c429 c430 c431 c432 c433 c434 c435 c436 c437 c438 c439 c440 c441 c442 c443 c444 c445 c446 c447 c448 c449 c450 c451 c452 c453 c454 c455 c456 c457 c458 c459 c460 c461 c462 c463 c464 c465 c466 c467 c468 c469 c470 c471 c472 c473 c474 c475 c476 c477 c478 c479 c480 c481 c482 c483 c484 c485 c486 c487 c488 c489 c490 c491 c492 c493 c494 c495 c496 c497 c498 c499 c500 c501 c502 c503 c504 c505 c506 c507 c508 c509 c510 c511 c512 : Value} (w0 w : World) (B : Nat) (ρ : Lb → Option Rw) (C wb mk ob pb hl qb P S : Nat) (A : List Value) (wv vs : Nat → Value) (runs rr : Nat → List Rn) (hs : Nat → Int) (acs : Nat → List Sp) (secs : Nat → List Sc) (vp0 : Nat → Value)
    (hM : Mm w0 w B (stP ρ pb S (.slice none 0 0) [] vp0 (fun _ => []))) (hP : P ≤ 6) (hS : S ≤ 6) (hS1 : 1 ≤ S) (hA4 : A[4]? = some (.slice (some ⟨hl, 0, none⟩) P P)) (hA7 : A[7]? = some (.slice (some ⟨qb, 0, none⟩) P P)) (hF : ∀ q, Fine S (runs q)) (hT : ((List.range P).flatMap runs).length ≤ 4096)
    (hbl : ∀ p, p ≤ P → ((List.range p).flatMap fun q => hsp q (acs q)).length ≤ 4096) (hpd : ∀ q, q < P → (rr q).Perm (runs q) ∧ Pd rr hs acs vs secs q)
    (h0 : ρ (4, 0) = some (bk C 43 10 1 1 A)) (h3 : ρ (3, 0) = some (bk wb 30 1 P P (vals P wv))) (hw : ∀ q, q < P → ρ (2, q) = some ⟨wv q, 29, 4, (runs q).length, fl Rn.enc (runs q)⟩) (h5 : ρ (5, 0) = some (bk hl 2 1 P P (ints ((List.range P).map hs)))) (h6 : ρ (6, 0) = some (bk qb 54 1 P P (vals P vs)))
    (h7 : ∀ q, q < P → ρ (7, q) = some ⟨vs q, 56, 2, (secs q).length, fl Sc.enc (secs q)⟩) (h30 : ρ (30, 0) = some (bk mk 4 1 65600 65600 marks)) (h31 : ρ (31, 0) = some (bk ob 49 6 1 1 [.int .i64 3, .int .i64 5, .int .i64 1, .int .i64 4, .int .i64 0, .int .i64 2])) (Q : Exit → Act → World → Prop)
    (hexit : ∀ (u8 u28 u29 u30 u32 u33 u35 u36 u38 u39 u40 u41 u247 u248 u249 u250 u251 u252 u253 u254 u255 u256 u257 u258 u259 u260 u261 u262 u263 u264 u265 u266 u267 u268 u269 u270 u271 u272 u273 u274 u275 u276 u277 u278 u279 u280 u281 u282 u283 u284 u285 u286 u287 u288 u289 u290 u291 u292 u293 u294 u295 u296 u297 u298 u299 u300 u301 u302 u303 u304 u305 u306 u307 u308 u309 u310 u311 u312 u313 u314 u315 u316 u317 u318 u319 u320 u321 u322 u323 u324 u325 u326 u327 u328 u329 u330 u331 u332 u333 u334 u335 u336 u337 u338 u339 u340 u341 u342 u343 u344 u345 u346 u347 u348 u349 u350 u351 u352 u353 u354 u355 u356 u357 u358 u359 u360 u361 u362 u363 u364 u365 u366 u367 u368 : Value) (vS : Value) (vp : Nat → Value) (w' : World), Mm w0 w' B (stP ρ pb S vS ((List.range P).flatMap fun q => hsp q (acs q)) vp (fun k => (List.range P).flatMap fun q => sel k (runs q))) → Q .normal ⟨#[c0, c1, c2, c3, c4, c5, c6, c7, u8, .int .i64 (P : Nat), .int .i64 (S : Nat), c11, .slice (some ⟨wb, 0, none⟩) P P, c13, c14, c15, c16, c17, .pointer (some ⟨C, 0, none⟩), c19, c20, c21, c22, c23, .slice (some ⟨mk, 0, none⟩) 65600 65600, .pointer (some ⟨ob, 0, none⟩), vS, .slice (some ⟨pb, 0, none⟩) S S, u28, u29, u30, c31, u32, u33, c34, u35, u36, c37, u38, u39, u40, u41, c42, c43, c44, c45, c46, c47, c48, c49, c50, c51, c52, c53, c54, c55, c56, c57, c58, c59, c60, c61, c62, c63, c64, c65, c66, c67, c68, c69, c70, c71, c72, c73, c74, c75, c76, c77, c78, c79, c80, c81, c82, c83, c84, c85, c86, c87, c88, c89, c90, c91, c92, c93, c94, c95, c96, c97, c98, c99, c100, c101, c102, c103, c104, c105, c106, c107, c108, c109, c110, c111, c112, c113, c114, c115, c116, c117, c118, c119, c120, c121, c122, c123, c124, c125, c126, c127, c128, c129, c130, c131, c132, c133, c134, c135, c136, c137, c138, c139, c140, c141, c142, c143, c144, c145, c146, c147, c148, c149, c150, c151, c152, c153, c154, c155, c156, c157, c158, c159, c160, c161, c162, c163, c164, c165, c166, c167, c168, c169, c170, c171, c172, c173, c174, c175, c176, c177, c178, c179, c180, c181, c182, c183, c184, c185, c186, c187, c188, c189, c190, c191, c192, c193, c194, c195, c196, c197, c198, c199, c200, c201, c202, c203, c204, c205, c206, c207, c208, c209, c210, c211, c212, c213, c214, c215, c216, c217, c218, c219, c220, c221, c222, c223, c224, c225, c226, c227, c228, c229, c230, c231, c232, c233, c234, c235, c236, c237, c238, c239, c240, c241, c242, c243, c244, c245, c246, u247, u248, u249, u250, u251, u252, u253, u254, u255, u256, u257, u258, u259, u260, u261, u262, u263, u264, u265, u266, u267, u268, u269, u270, u271, u272, u273, u274, u275, u276, u277, u278, u279, u280, u281, u282, u283, u284, u285, u286, u287, u288, u289, u290, u291, u292, u293, u294, u295, u296, u297, u298, u299, u300, u301, u302, u303, u304, u305, u306, u307, u308, u309, u310, u311, u312, u313, u314, u315, u316, u317, u318, u319, u320, u321, u322, u323, u324, u325, u326, u327, u328, u329, u330, u331, u332, u333, u334, u335, u336, u337, u338, u339, u340, u341, u342, u343, u344, u345, u346, u347, u348, u349, u350, u351, u352, u353, u354, u355, u356, u357, u358, u359, u360, u361, u362, u363, u364, u365, u366, u367, u368, c369, c370, c371, c372, c373, c374, c375, c376, c377, c378, c379, c380, c381, c382, c383, c384, c385, c386, c387, c388, c389, c390, c391, c392, c393, c394, c395, c396, c397, c398, c399, c400, c401, c402, c403, c404, c405, c406, c407, c408, c409, c410, c411, c412, c413, c414, c415, c416, c417, c418, c419, c420, c421, c422, c423, c424, c425, c426, c427, c428, c429, c430, c431, c432, c433, c434, c435, c436, c437, c438, c439, c440, c441, c442, c443, c444, c445, c446, c447, c448, c449, c450, c451, c452, c453, c454, c455, c456, c457, c458, c459, c460, c461, c462, c463, c464, c465, c466, c467, c468, c469, c470, c471, c472, c473, c474, c475, c476, c477, c478, c479, c480, c481, c482, c483, c484, c485, c486, c487, c488, c489, c490, c491, c492, c493, c494, c495, c496, c497, c498, c499, c500, c501, c502, c503, c504, c505, c506, c507, c508, c509, c510, c511, c512], []⟩ w') :
    Code.wp Yba.prog (pick [true, true, true, true, true, true, true, true, true, true, true, true, true, true, true, true, false, true] (Yba.f3.body.getD .skip)) Q ⟨#[c0, c1, c2, c3, c4, c5, c6, c7, c8, .int .i64 (P : Nat), .int .i64 (S : Nat), c11, .slice (some ⟨wb, 0, none⟩) P P, c13, c14, c15, c16, c17, .pointer (some ⟨C, 0, none⟩), c19, c20, c21, c22, c23, .slice (some ⟨mk, 0, none⟩) 65600 65600, .pointer (some ⟨ob, 0, none⟩), .slice none 0 0, .slice (some ⟨pb, 0, none⟩) S S, .int .i64 0, c29, c30, c31, c32, c33, c34, c35, c36, c37, c38, c39, c40, c41, c42, c43, c44, c45, c46, c47, c48, c49, c50, c51, c52, c53, c54, c55, c56, c57, c58, c59, c60, c61, c62, c63, c64, c65, c66, c67, c68, c69, c70, c71, c72, c73, c74, c75, c76, c77, c78, c79, c80, c81, c82, c83, c84, c85, c86, c87, c88, c89, c90, c91, c92, c93, c94, c95, c96, c97, c98, c99, c100, c101, c102, c103, c104, c105, c106, c107, c108, c109, c110, c111, c112, c113, c114, c115, c116, c117, c118, c119, c120, c121, c122, c123, c124, c125, c126, c127, c128, c129, c130, c131, c132, c133, c134, c135, c136, c137, c138, c139, c140, c141, c142, c143, c144, c145, c146, c147, c148, c149, c150, c151, c152, c153, c154, c155, c156, c157, c158, c159, c160, c161, c162, c163, c164, c165, c166, c167, c168, c169, c170, c171, c172, c173, c174, c175, c176, c177, c178, c179, c180, c181, c182, c183, c184, c185, c186, c187, c188, c189, c190, c191, c192, c193, c194, c195, c196, c197, c198, c199, c200, c201, c202, c203, c204, c205, c206, c207, c208, c209, c210, c211, c212, c213, c214, c215, c216, c217, c218, c219, c220, c221, c222, c223, c224, c225, c226, c227, c228, c229, c230, c231, c232, c233, c234, c235, c236, c237, c238, c239, c240, c241, c242, c243, c244, c245, c246, c247, c248, c249, c250, c251, c252, c253, c254, c255, c256, c257, c258, c259, c260, c261, c262, c263, c264, c265, c266, c267, c268, c269, c270, c271, c272, c273, c274, c275, c276, c277, c278, c279, c280, c281, c282, c283, c284, c285, c286, c287, c288, c289, c290, c291, c292, c293, c294, c295, c296, c297, c298, c299, c300, c301, c302, c303, c304, c305, c306, c307, c308, c309, c310, c311, c312, c313, c314, c315, c316, c317, c318, c319, c320, c321, c322, c323, c324, c325, c326, c327, c328, c329, c330, c331, c332, c333, c334, c335, c336, c337, c338, c339, c340, c341, c342, c343, c344, c345, c346, c347, c348, c349, c350, c351, c352, c353, c354, c355, c356, c357, c358, c359, c360, c361, c362, c363, c364, c365, c366, c367, c368, c369, c370, c371, c372, c373, c374, c375, c376, c377, c378, c379, c380, c381, c382, c383, c384, c385, c386, c387, c388, c389, c390, c391, c392, c393, c394, c395, c396, c397, c398, c399, c400, c401, c402, c403, c404, c405, c406, c407, c408, c409, c410, c411, c412, c413, c414, c415, c416, c417, c418, c419, c420, c421, c422, c423, c424, c425, c426, c427, c428, c429, c430, c431, c432, c433, c434, c435, c436, c437, c438, c439, c440, c441, c442, c443, c444, c445, c446, c447, c448, c449, c450, c451, c452, c453, c454, c455, c456, c457, c458, c459, c460, c461, c462, c463, c464, c465, c466, c467, c468, c469, c470, c471, c472, c473, c474, c475, c476, c477, c478, c479, c480, c481, c482, c483, c484, c485, c486, c487, c488, c489, c490, c491, c492, c493, c494, c495, c496, c497, c498, c499, c500, c501, c502, c503, c504, c505, c506, c507, c508, c509, c510, c511, c512], []⟩ w := by
  have HM : Hid (Mm w0 w B (stP ρ pb S (.slice none 0 0) [] vp0 (fun _ => []))) := hM
  have HA4 : Hid _ := hA4
  have HA7 : Hid _ := hA7
  have HF : Hid (∀ q, Fine S (runs q)) := hF
  have HT : Hid (((List.range P).flatMap runs).length ≤ 4096) := hT
  have HBL : Hid (∀ p, p ≤ P → ((List.range p).flatMap fun q => hsp q (acs q)).length ≤ 4096) := hbl
  have HPD : Hid (∀ q, q < P → (rr q).Perm (runs q) ∧ Pd rr hs acs vs secs q) := hpd
  have H0 : Hid (ρ (4, 0) = some (bk C 43 10 1 1 A)) := h0
  have H3 : Hid (ρ (3, 0) = some (bk wb 30 1 P P (vals P wv))) := h3
  have HWn : Hid (∀ q, q < P → ρ (2, q) = some ⟨wv q, 29, 4, (runs q).length, fl Rn.enc (runs q)⟩) := hw
  have H5 : Hid (ρ (5, 0) = some (bk hl 2 1 P P (ints ((List.range P).map hs)))) := h5
  have H6 : Hid (ρ (6, 0) = some (bk qb 54 1 P P (vals P vs))) := h6
  have H7 : Hid (∀ q, q < P → ρ (7, q) = some ⟨vs q, 56, 2, (secs q).length, fl Sc.enc (secs q)⟩) := h7
  have H30 : Hid (ρ (30, 0) = some (bk mk 4 1 65600 65600 marks)) := h30
  have H31 : Hid (ρ (31, 0) = some (bk ob 49 6 1 1 [.int .i64 3, .int .i64 5, .int .i64 1, .int .i64 4, .int .i64 0, .int .i64 2])) := h31
  have HE : Hid (∀ (u8 u28 u29 u30 u32 u33 u35 u36 u38 u39 u40 u41 u247 u248 u249 u250 u251 u252 u253 u254 u255 u256 u257 u258 u259 u260 u261 u262 u263 u264 u265 u266 u267 u268 u269 u270 u271 u272 u273 u274 u275 u276 u277 u278 u279 u280 u281 u282 u283 u284 u285 u286 u287 u288 u289 u290 u291 u292 u293 u294 u295 u296 u297 u298 u299 u300 u301 u302 u303 u304 u305 u306 u307 u308 u309 u310 u311 u312 u313 u314 u315 u316 u317 u318 u319 u320 u321 u322 u323 u324 u325 u326 u327 u328 u329 u330 u331 u332 u333 u334 u335 u336 u337 u338 u339 u340 u341 u342 u343 u344 u345 u346 u347 u348 u349 u350 u351 u352 u353 u354 u355 u356 u357 u358 u359 u360 u361 u362 u363 u364 u365 u366 u367 u368 : Value) (vS : Value) (vp : Nat → Value) (w' : World), Mm w0 w' B (stP ρ pb S vS ((List.range P).flatMap fun q => hsp q (acs q)) vp (fun k => (List.range P).flatMap fun q => sel k (runs q))) → Q .normal ⟨#[c0, c1, c2, c3, c4, c5, c6, c7, u8, .int .i64 (P : Nat), .int .i64 (S : Nat), c11, .slice (some ⟨wb, 0, none⟩) P P, c13, c14, c15, c16, c17, .pointer (some ⟨C, 0, none⟩), c19, c20, c21, c22, c23, .slice (some ⟨mk, 0, none⟩) 65600 65600, .pointer (some ⟨ob, 0, none⟩), vS, .slice (some ⟨pb, 0, none⟩) S S, u28, u29, u30, c31, u32, u33, c34, u35, u36, c37, u38, u39, u40, u41, c42, c43, c44, c45, c46, c47, c48, c49, c50, c51, c52, c53, c54, c55, c56, c57, c58, c59, c60, c61, c62, c63, c64, c65, c66, c67, c68, c69, c70, c71, c72, c73, c74, c75, c76, c77, c78, c79, c80, c81, c82, c83, c84, c85, c86, c87, c88, c89, c90, c91, c92, c93, c94, c95, c96, c97, c98, c99, c100, c101, c102, c103, c104, c105, c106, c107, c108, c109, c110, c111, c112, c113, c114, c115, c116, c117, c118, c119, c120, c121, c122, c123, c124, c125, c126, c127, c128, c129, c130, c131, c132, c133, c134, c135, c136, c137, c138, c139, c140, c141, c142, c143, c144, c145, c146, c147, c148, c149, c150, c151, c152, c153, c154, c155, c156, c157, c158, c159, c160, c161, c162, c163, c164, c165, c166, c167, c168, c169, c170, c171, c172, c173, c174, c175, c176, c177, c178, c179, c180, c181, c182, c183, c184, c185, c186, c187, c188, c189, c190, c191, c192, c193, c194, c195, c196, c197, c198, c199, c200, c201, c202, c203, c204, c205, c206, c207, c208, c209, c210, c211, c212, c213, c214, c215, c216, c217, c218, c219, c220, c221, c222, c223, c224, c225, c226, c227, c228, c229, c230, c231, c232, c233, c234, c235, c236, c237, c238, c239, c240, c241, c242, c243, c244, c245, c246, u247, u248, u249, u250, u251, u252, u253, u254, u255, u256, u257, u258, u259, u260, u261, u262, u263, u264, u265, u266, u267, u268, u269, u270, u271, u272, u273, u274, u275, u276, u277, u278, u279, u280, u281, u282, u283, u284, u285, u286, u287, u288, u289, u290, u291, u292, u293, u294, u295, u296, u297, u298, u299, u300, u301, u302, u303, u304, u305, u306, u307, u308, u309, u310, u311, u312, u313, u314, u315, u316, u317, u318, u319, u320, u321, u322, u323, u324, u325, u326, u327, u328, u329, u330, u331, u332, u333, u334, u335, u336, u337, u338, u339, u340, u341, u342, u343, u344, u345, u346, u347, u348, u349, u350, u351, u352, u353, u354, u355, u356, u357, u358, u359, u360, u361, u362, u363, u364, u365, u366, u367, u368, c369, c370, c371, c372, c373, c374, c375, c376, c377, c378, c379, c380, c381, c382, c383, c384, c385, c386, c387, c388, c389, c390, c391, c392, c393, c394, c395, c396, c397, c398, c399, c400, c401, c402, c403, c404, c405, c406, c407, c408, c409, c410, c411, c412, c413, c414, c415, c416, c417, c418, c419, c420, c421, c422, c423, c424, c425, c426, c427, c428, c429, c430, c431, c432, c433, c434, c435, c436, c437, c438, c439, c440, c441, c442, c443, c444, c445, c446, c447, c448, c449, c450, c451, c452, c453, c454, c455, c456, c457, c458, c459, c460, c461, c462, c463, c464, c465, c466, c467, c468, c469, c470, c471, c472, c473, c474, c475, c476, c477, c478, c479, c480, c481, c482, c483, c484, c485, c486, c487, c488, c489, c490, c491, c492, c493, c494, c495, c496, c497, c498, c499, c500, c501, c502, c503, c504, c505, c506, c507, c508, c509, c510, c511, c512], []⟩ w') := hexit
  clear hM hA4 hA7 hF hT hbl hpd h0 h3 hw h5 h6 h7 h30 h31 hexit
  conv => arg 2; whnf
  go_wp2_with fail
  go_loopw [26, 28] (fun u26 v28 wr => ∃ (p : Nat) (vp : Nat → Value), v28 = .int .i64 p ∧ p ≤ P ∧ Hid (Mm w0 wr B (stP ρ pb S u26 ((List.range p).flatMap fun q => hsp q (acs q)) vp (fun k => (List.range p).flatMap fun q => sel k (runs q))))) (fun _ v28 _ => P - (RowKit.intOf v28).toNat)
  case atStart =>
    refine ⟨0, vp0, rfl, by omega, ?_⟩
    show Mm _ _ _ _
    have h := HM.out
    simp only [List.range_zero, List.flatMap_nil] at h ⊢
    exact h
  case round =>
    obtain ⟨p, vp, hv28, hp, HW⟩ := hrel
    subst hv28
    by_cases hin : p < P
    · have hpp := HPD.out p hin
      obtain ⟨bs, HBS⟩ : ∃ bs, Hid (((List.range p).flatMap fun q => hsp q (acs q)) = bs) := ⟨_, rfl⟩
      obtain ⟨prow, HPR⟩ : ∃ prow, Hid ((fun k => (List.range p).flatMap fun q => sel k (runs q)) = prow) := ⟨_, rfl⟩
      rw [HBS.out, HPR.out] at HW
      obtain ⟨R0, HR0⟩ : ∃ R0, Hid (stP ρ pb S u26 bs vp prow = R0) := ⟨_, rfl⟩
      rw [HR0.out] at HW
      have oth : ∀ l : Lb, l.1 ≠ 34 → l.1 ≠ 36 → l ≠ (33, 0) → l ≠ (32, 0) → l ≠ (35, 0) → l ≠ (37, 0) → l ≠ (20, 0) → l ≠ (4, 3) → l ≠ (4, 4) → R0 l = ρ l := fun l h1 h2 h3 h4 h5 h6 h7 h8 h9 => by rw [← HR0.out]; exact stP_other h1 h2 h3 h4 h5 h6 h7 h8 h9
      have s2 : R0 (2, p) = some ⟨wv p, 29, 4, (runs p).length, fl Rn.enc (runs p)⟩ := (oth _ (by simp) (by simp) (by simp) (by simp) (by simp) (by simp) (by simp) (by simp) (by simp)).trans (HWn.out p hin)
      have s3 : R0 (3, 0) = some (bk wb 30 1 P P (vals P wv)) := (oth _ (by simp) (by simp) (by simp) (by simp) (by simp) (by simp) (by simp) (by simp) (by simp)).trans H3.out
      have s30 : R0 (30, 0) = some (bk mk 4 1 65600 65600 marks) := (oth _ (by simp) (by simp) (by simp) (by simp) (by simp) (by simp) (by simp) (by simp) (by simp)).trans H30.out
      have HOTH : Hid (∀ l : Lb, l.1 ≠ 34 → l.1 ≠ 36 → l ≠ (33, 0) → l ≠ (32, 0) → l ≠ (35, 0) → l ≠ (37, 0) → l ≠ (20, 0) → l ≠ (4, 3) → l ≠ (4, 4) → R0 l = ρ l) := oth
      clear oth
      obtain ⟨a, c, hf⟩ := own_form (HW.out.mem.own _ _ s2)
      simp only at hf
      obtain ⟨d, HD⟩ : ∃ d, Hid (runs p = d) := ⟨_, rfl⟩
      rw [HD.out] at hf s2
      have k0 : wr.cell? ⟨wb, p, none⟩ = some (.slice a d.length c) := by rw [← hf]; exact HW.out.cell s3 p (vals_at P wv p hin)
      have l0 := HW.out.lt s3
      rw [hf] at s2
      have HFW : Hid (wv p = .slice a d.length c) := hf
      have hd4 : d.length ≤ 4096 := by rw [← HD.out]; exact run_len HT.out p hin
      have HFD : Hid (Fine S d) := by show Fine S _; rw [← HD.out]; exact HF.out p
      have hp1 : (0 : Int) ≤ (p : Int) := Int.natCast_nonneg _
      have hp2 : (p : Int) < (P : Int) := by omega
      have HS2 : Hid (R0 (2, p) = some ⟨.slice a d.length c, 29, 4, d.length, fl Rn.enc d⟩) := s2
      have HS30 : Hid (R0 (30, 0) = some (bk mk 4 1 65600 65600 marks)) := s30
      have CU : Hid _ := unionOwn B S mk (.slice a d.length c) d wr hd4 (HW.out.mem.own _ _ s2) (HW.out.mem.own _ _ s30) (HW.out.apart s2 s30 (by simp) rfl) HFD.out
      clear s2 s3 s30 hf
      go_wp2_with fail
      refine Calls.mono CU.out ?_
      rintro e w1 ⟨a1, c1, acc, rfl, hspans, hmk, hgr, hsame, _⟩
      have hacc : acs p = acc := hsame (rr p) (acs p) (by rw [← HD.out]; exact hpp.1) hpp.2.mi
      have HAC : Hid (acs p = acc) := hacc
      have hsm : Small acc := by rw [← hacc]; exact hpp.2.sm
      have hhs : hs p = tot acc := by rw [← hacc]; exact hpp.2.held
      have M1 : Hid (Mm w0 w1 B (upd R0 (20, 0) (some ⟨.slice a1 acc.length c1, 33, 2, acc.length, spc acc⟩))) := by
        have h := HW.out.put HS30.out hgr hmk (fun g hg => .inl hg)
        rw [upd_self _ _ _ HS30.out] at h
        refine h.add (20, 0) ⟨.slice a1 acc.length c1, 33, 2, acc.length, spc acc⟩ (own_base hspans HW.out.le) (fun l2 r2 g hl2 hg2 e => ?_)
        have h1 := (HW.out.mem.lt hl2 hg2).2
        have h2 := (hspans.lt g e).1
        omega
      have HSAME : Hid (SameSp d acc) := hsame
      clear hspans hmk hgr hsame CU k0 l0 hacc
      obtain ⟨ρ1, HR1⟩ : ∃ ρ1, Hid (upd R0 (20, 0) (some ⟨.slice a1 acc.length c1, 33, 2, acc.length, spc acc⟩) = ρ1) := ⟨_, rfl⟩
      rw [HR1.out] at M1
      have t0 : ρ1 (4, 0) = some (bk C 43 10 1 1 A) := by rw [← HR1.out, upd_other _ _ (by simp)]; exact (HOTH.out _ (by simp) (by simp) (by simp) (by simp) (by simp) (by simp) (by simp) (by simp) (by simp)).trans H0.out
      have t5 : ρ1 (5, 0) = some (bk hl 2 1 P P (ints ((List.range P).map hs))) := by rw [← HR1.out, upd_other _ _ (by simp)]; exact (HOTH.out _ (by simp) (by simp) (by simp) (by simp) (by simp) (by simp) (by simp) (by simp) (by simp)).trans H5.out
      have y1 : w1.cell? ⟨C, 4, none⟩ = some (.slice (some ⟨hl, 0, none⟩) P P) := M1.out.cell t0 4 HA4.out
      have y2 : w1.cell? ⟨hl, p, none⟩ = some (.int .i64 (tot acc)) := M1.out.cell t5 p (ints_at _ p _ (by rw [← hhs]; simp [hin]))
      have l0 := M1.out.lt t0
      have l5 := M1.out.lt t5
      clear t0 t5 hhs
      obtain ⟨ta, HTA⟩ : ∃ ta, Hid (tot acc = ta) := ⟨_, rfl⟩
      rw [HTA.out] at y2 ⊢
      go_upto_block 8 with fail
      have t20 : ρ1 (20, 0) = some ⟨.slice a1 acc.length c1, 33, 2, acc.length, spc acc⟩ := by rw [← HR1.out, upd_same]
      have t32 : ρ1 (32, 0) = some ⟨u26, 35, 3, bs.length, fl Hs.enc bs⟩ := by rw [← HR1.out, upd_other _ _ (by simp), ← HR0.out]; simp [stP]
      have hbl : bs.length ≤ 100000 := by rw [← HBS.out]; have := HBL.out p hp; omega
      refine gather w0 w1 B ρ1 p a1 c1 acc u26 bs M1.out hsm.1 hbl (by omega) t20 t32 _ ?_
      clear t20 t32 hbl y1 y2 l0 l5
      intro x32 x272 x273 x274 x275 x276 x277 x278 x279 x280 x281 x282 x283 vS' w2 hm2
      obtain ⟨bs', HBS'⟩ : ∃ bs', Hid (bs ++ hsp p acc = bs') := ⟨_, rfl⟩
      rw [HBS'.out] at hm2
      obtain ⟨ρ2, HR2⟩ : ∃ ρ2, Hid (upd (upd ρ1 (4, 3) none) (32, 0) (some ⟨vS', 35, 3, bs'.length, fl Hs.enc bs'⟩) = ρ2) := ⟨_, rfl⟩
      have M2 : Hid (Mm w0 w2 B ρ2) := by show Mm _ _ _ _; rw [← HR2.out]; exact hm2
      clear hm2
      have m23 := fun w => make23 w S (by omega)
      have t3 : ρ2 (3, 0) = some (bk wb 30 1 P P (vals P wv)) := by rw [← HR2.out, upd_other _ _ (by simp), upd_other _ _ (by simp), ← HR1.out, upd_other _ _ (by simp)]; exact (HOTH.out _ (by simp) (by simp) (by simp) (by simp) (by simp) (by simp) (by simp) (by simp) (by simp)).trans H3.out
      have y1 : w2.cell? ⟨wb, p, none⟩ = some (.slice a d.length c) := by rw [← HFW.out]; exact M2.out.cell t3 p (vals_at P wv p hin)
      have l3 := M2.out.lt t3
      clear t3
      go_upto_block 10 with fail
      obtain ⟨bb, HBB⟩ : ∃ bb, Hid (w2.heap.size = bb) := ⟨_, rfl⟩
      rw [HBB.out]
      have M3 : Hid (Mm w0 (w2.alloc (.cells (Array.replicate S (.slice none 0 0)) 30)) B (upd ρ2 (35, 0) (some (bk bb 30 1 S S (List.replicate S (.slice none 0 0)))))) := by
        have h := M2.out.box (35, 0) (Array.replicate S (.slice none 0 0)) 30 1 S (by unfold maxLen; omega) (by simp) HBB.out
        rw [Array.toList_replicate] at h
        exact h
      generalize w2.alloc (.cells (Array.replicate S (.slice none 0 0)) 30) = w3 at M3 ⊢
      obtain ⟨ρ3, HR3⟩ : ∃ ρ3, Hid (upd ρ2 (35, 0) (some (bk bb 30 1 S S (List.replicate S (.slice none 0 0)))) = ρ3) := ⟨_, rfl⟩
      rw [HR3.out] at M3
      clear y1 l3 m23
      have M3' : Hid (Mm w0 w3 B (stG ρ3 pb bb S vp (fun _ => .slice none 0 0) prow (fun _ => []))) := by
        refine M3.out.weak (fun l => ?_)
        obtain ⟨x, y⟩ := l
        by_cases e34 : x = 34
        · subst e34; left; rw [← HR3.out, ← HR2.out, ← HR1.out, ← HR0.out]; simp [stG, upd, stP]
        by_cases e36 : x = 36
        · subst e36
          by_cases ey : y < S
          · right; right; exact ⟨29, 4, by simp [stG, ey, fl]⟩
          · right; left; simp [stG, ey]
        by_cases e33 : x = 33 ∧ y = 0
        · obtain ⟨rfl, rfl⟩ := e33; left; rw [← HR3.out, ← HR2.out, ← HR1.out, ← HR0.out]; simp [stG, upd, stP]
        by_cases e35 : x = 35 ∧ y = 0
        · obtain ⟨rfl, rfl⟩ := e35; left; rw [← HR3.out]; simp [stG, upd, vals, List.map_const']
        by_cases e4 : x = 4 ∧ y = 4
        · obtain ⟨rfl, rfl⟩ := e4; right; left; simp [stG]
        left
        exact stG_other e34 e36 (by simp; exact fun h1 h2 => e33 ⟨h1, h2⟩) (by simp; exact fun h1 h2 => e35 ⟨h1, h2⟩) (by simp; exact fun h1 h2 => e4 ⟨h1, h2⟩)
      have t2 : ρ3 (2, p) = some ⟨.slice a d.length c, 29, 4, d.length, fl Rn.enc d⟩ := by rw [← HR3.out, upd_other _ _ (by simp), ← HR2.out, upd_other _ _ (by simp), upd_other _ _ (by simp), ← HR1.out, upd_other _ _ (by simp)]; exact HS2.out
      have hprl : ∀ j, (prow j).length ≤ 100000 := fun j => by
        rw [← HPR.out]
        have := flat_len (fun q => sel j (runs q)) runs (fun q => sel_len _ _) p P (by omega)
        have h4 := HT.out
        simp only
        omega
      refine group w0 w3 B ρ3 pb bb S p a c d vp (fun _ => .slice none 0 0) prow M3'.out hd4 hS hprl (fun r hr => (HFD.out r hr).1) t2 _ ?_
      clear t2 hprl
      intro x35 x291 x292 x293 x294 x295 x296 x297 x298 x299 x300 x301 x302 x303 x304 x305 x306 x307 x308 x309 x310 x311 x312 x313 x314 x315 x316 x317 x318 x319 vp' vq' w4 hm4
      obtain ⟨prow', HPR'⟩ : ∃ prow', Hid ((fun j => prow j ++ sel j d) = prow') := ⟨_, rfl⟩
      obtain ⟨ρ4, HR4⟩ : ∃ ρ4, Hid (stG ρ3 pb bb S vp' vq' prow' (fun j => sel j d) = ρ4) := ⟨_, rfl⟩
      have M4 : Hid (Mm w0 w4 B ρ4) := by show Mm _ _ _ _; rw [← HR4.out, ← HPR'.out]; exact hm4
      clear hm4
      have oth4 : ∀ l : Lb, l.1 ≠ 34 → l.1 ≠ 36 → l ≠ (33, 0) → l ≠ (32, 0) → l ≠ (35, 0) → l ≠ (37, 0) → l ≠ (20, 0) → l ≠ (4, 3) → l ≠ (4, 4) → ρ4 l = ρ l := fun l h1 h2 h3 h4 h5 h6 h7 h8 h9 => by
        rw [← HR4.out, stG_other h1 h2 h3 h5 h9, ← HR3.out, upd_other _ _ h5, ← HR2.out, upd_other _ _ h4, upd_other _ _ h8, ← HR1.out, upd_other _ _ h7]
        exact HOTH.out l h1 h2 h3 h4 h5 h6 h7 h8 h9
      have HO4 : Hid (∀ l : Lb, l.1 ≠ 34 → l.1 ≠ 36 → l ≠ (33, 0) → l ≠ (32, 0) → l ≠ (35, 0) → l ≠ (37, 0) → l ≠ (20, 0) → l ≠ (4, 3) → l ≠ (4, 4) → ρ4 l = ρ l) := oth4
      clear oth4
      have t31 : ρ4 (31, 0) = some (bk ob 49 6 1 1 [.int .i64 3, .int .i64 5, .int .i64 1, .int .i64 4, .int .i64 0, .int .i64 2]) := (HO4.out _ (by simp) (by simp) (by simp) (by simp) (by simp) (by simp) (by simp) (by simp) (by simp)).trans H31.out
      have y0 := M4.out.cell t31 0 rfl
      have y1 := M4.out.cell t31 1 rfl
      have y2 := M4.out.cell t31 2 rfl
      have y3 := M4.out.cell t31 3 rfl
      have y4 := M4.out.cell t31 4 rfl
      have y5 := M4.out.cell t31 5 rfl
      have l31 := M4.out.lt t31
      have z49 := size49
      have g49 := agg49
      clear t31
      go_upto_block 12 with fail
      have t37 : ρ4 (37, 0) = none := by
        rw [← HR4.out, stG_other (by simp) (by simp) (by simp) (by simp) (by simp), ← HR3.out, upd_other _ _ (by simp), ← HR2.out, upd_other _ _ (by simp), upd_other _ _ (by simp), ← HR1.out, upd_other _ _ (by simp), ← HR0.out]; simp [stP]
      have t30 : ρ4 (30, 0) = some (bk mk 4 1 65600 65600 marks) := (HO4.out _ (by simp) (by simp) (by simp) (by simp) (by simp) (by simp) (by simp) (by simp) (by simp)).trans H30.out
      have t35 : ρ4 (35, 0) = some (bk bb 30 1 S S (vals S vq')) := by rw [← HR4.out]; simp [stG]
      have t36 : ∀ k, k < S → ρ4 (36, k) = some ⟨vq' k, 29, 4, (sel k d).length, fl Rn.enc (sel k d)⟩ := fun k hk => by rw [← HR4.out]; simp [stG, hk]
      refine order w0 w4 B ρ4 mk bb S vq' (fun k => sel k d) M4.out hS (fun k => ⟨Nat.le_trans (sel_len k d) hd4, fine_sel HFD.out k⟩) t30 t35 t36 t37 _ ?_
      clear t30 t35 t36 t37 y0 y1 y2 y3 y4 y5 l31 z49 g49
      intro x38 x39 x40 x321 x322 x323 x324 x325 x326 x327 x328 x329 x330 x331 x332 x333 x334 x335 x336 x337 x338 x339 x340 x341 x342 x343 x344 x345 x346 x347 x348 x349 x350 vW l w5 hm5 hws hnilW
      have M5 : Hid (Mm w0 w5 B (upd ρ4 (37, 0) (some ⟨vW, 56, 2, l.length, fl Sc.enc l⟩))) := hm5
      have hgs : secs p = l := secs_eq hS (by rw [← HD.out]; exact hpp.1) HFD.out hws hpp.2.sec hpp.2.ord
      have HNW : Hid (l = [] → vW = .slice none 0 0) := hnilW
      have HNG : Hid (l = [] → vs p = .slice none 0 0) := fun e => hpp.2.nil (by rw [hgs]; exact e)
      have HGS : Hid (secs p = l) := hgs
      clear hm5 hws hnilW hgs
      have oth5 : ∀ x : Lb, x.1 ≠ 34 → x.1 ≠ 36 → x ≠ (33, 0) → x ≠ (32, 0) → x ≠ (35, 0) → x ≠ (37, 0) → x ≠ (20, 0) → x ≠ (4, 3) → x ≠ (4, 4) → upd ρ4 (37, 0) (some ⟨vW, 56, 2, l.length, fl Sc.enc l⟩) x = ρ x := fun x h1 h2 h3 h4 h5 h6 h7 h8 h9 => (upd_other _ _ h6).trans (HO4.out x h1 h2 h3 h4 h5 h6 h7 h8 h9)
      have t0 : upd ρ4 (37, 0) (some ⟨vW, 56, 2, l.length, fl Sc.enc l⟩) (4, 0) = some (bk C 43 10 1 1 A) := (oth5 _ (by simp) (by simp) (by simp) (by simp) (by simp) (by simp) (by simp) (by simp) (by simp)).trans H0.out
      have t6 : upd ρ4 (37, 0) (some ⟨vW, 56, 2, l.length, fl Sc.enc l⟩) (6, 0) = some (bk qb 54 1 P P (vals P vs)) := (oth5 _ (by simp) (by simp) (by simp) (by simp) (by simp) (by simp) (by simp) (by simp) (by simp)).trans H6.out
      have t7 : upd ρ4 (37, 0) (some ⟨vW, 56, 2, l.length, fl Sc.enc l⟩) (7, p) = some ⟨vs p, 56, 2, l.length, fl Sc.enc l⟩ := by
        rw [oth5 _ (by simp) (by simp) (by simp) (by simp) (by simp) (by simp) (by simp) (by simp) (by simp), H7.out p hin, HGS.out]
      have ow1 := M5.out.mem.own _ _ t7
      have ow2 := M5.out.mem.own (37, 0) _ (upd_same _ _ _)
      obtain ⟨ag, cg, hag⟩ := own_form ow1
      obtain ⟨aw, cw, haw⟩ := own_form ow2
      simp only at hag haw
      obtain ⟨bn, hbg, hbw⟩ : ∃ bn, ag.isNone = bn ∧ aw.isNone = bn := by
        by_cases hl0 : l = []
        · have h1 := HNG.out hl0
          have h2 := HNW.out hl0
          rw [hag] at h1
          rw [haw] at h2
          simp only [Value.slice.injEq] at h1 h2
          exact ⟨true, by rw [h1.1]; rfl, by rw [h2.1]; rfl⟩
        · have hlp := List.length_pos_iff.2 hl0
          obtain ⟨g1, c1', e1⟩ := Joins.ownsRow_form ow1 hlp
          obtain ⟨g2, c2', e2⟩ := Joins.ownsRow_form ow2 hlp
          simp only at e1 e2
          rw [hag] at e1
          rw [haw] at e2
          simp only [Value.slice.injEq] at e1 e2
          exact ⟨false, by rw [e1.1]; rfl, by rw [e2.1]; rfl⟩
      have qg : ∀ w : World, (binOp .eql 54 (.slice ag l.length cg) (.slice none 0 0)).run Yba.prog w = .ok (.bool bn) w := fun w => by rw [Lib.run_eql_slice_nil w _ _ ag l.length cg 0 0 Yba.underlying54, hbg]
      have qw : ∀ w : World, (binOp .eql 54 (.slice aw l.length cw) (.slice none 0 0)).run Yba.prog w = .ok (.bool bn) w := fun w => by rw [Lib.run_eql_slice_nil w _ _ aw l.length cw 0 0 Yba.underlying54, hbw]
      have y1 : w5.cell? ⟨C, 7, none⟩ = some (.slice (some ⟨qb, 0, none⟩) P P) := M5.out.cell t0 7 HA7.out
      have y2 : w5.cell? ⟨qb, p, none⟩ = some (.slice ag l.length cg) := by rw [← hag]; exact M5.out.cell t6 p (vals_at P vs p hin)
      have l0 := M5.out.lt t0
      have l6 := M5.out.lt t6
      have hll : l.length ≤ 1048576 := by rw [← HGS.out]; have := secs_len hpp.2.sec; omega
      have CE : Hid (Calls Yba.prog 14 #[.slice ag l.length cg, .slice aw l.length cw] w5 fun e w' => e = .returned (.bool true) ∧ ∃ q, w' = w5.drewN q) := equal14Own B B _ _ l w5 hll (by rw [← hag]; exact ow1) (by rw [← haw]; exact ow2)
      have HAW : Hid (vW = .slice aw l.length cw) := haw
      rw [haw]
      clear t0 t6 t7 ow1 ow2 hag haw hbg hbw oth5 hll
      go_wp2_with fail
      refine Calls.mono CE.out ?_
      rintro e w6 ⟨rfl, nq, rfl⟩
      clear CE
      go_wp2_with fail
      go_roundw
      case rel =>
        refine ⟨p + 1, vp', by go_num, by omega, ?_⟩
        show Mm _ _ _ _
        refine (M5.out.drewN nq).weak (fun x => ?_)
        have eb : ((List.range (p + 1)).flatMap fun q => hsp q (acs q)) = bs' := by rw [range_flat, HBS.out, HAC.out, HBS'.out]
        have ep : (fun k => (List.range (p + 1)).flatMap fun q => sel k (runs q)) = prow' := by
          funext k
          rw [range_flat, ← HPR'.out, ← HPR.out, HD.out]
        rw [eb, ep, ← HR4.out, ← HR3.out, ← HR2.out, ← HR1.out, ← HR0.out]
        exact Or.elim (stP_weak ρ pb bb S u26 vS' bs bs' vp vp' vq' prow prow' (fun j => sel j d) _ _ none _ x) .inl (fun h => .inr (.inl h))
      case measure => simp [RowKit.intOf]; omega
    · go_wp2_with fail
      obtain rfl : p = P := by omega
      exact HE.out _ _ _ _ _ _ _ _ _ _ _ _ _ _ _ _ _ _ _ _ _ _ _ _ _ _ _ _ _ _ _ _ _ _ _ _ _ _ _ _ _ _ _ _ _ _ _ _ _ _ _ _ _ _ _ _ _ _ _ _ _ _ _ _ _ _ _ _ _ _ _ _ _ _ _ _ _ _ _ _ _ _ _ _ _ _ _ _ _ _ _ _ _ _ _ _ _ _ _ _ _ _ _ _ _ _ _ _ _ _ _ _ _ _ _ _ _ _ _ _ _ _ _ _ _ _ _ _ _ _ _ _ _ _ u26 vp _ HW.out

end Go.Proofs.Ybulkebla

