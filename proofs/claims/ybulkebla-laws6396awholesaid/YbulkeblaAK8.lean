import Derived.Test.YbulkeblaAK4
/-! The law: per section: its word, its items. -/
namespace Go.Proofs.Ybulkebla
open Go.RowKit Go.Lib
set_option linter.unusedVariables false
set_option linter.unusedSectionVars false
variable [Inhabited Rn] [Inhabited Hs] [Inhabited Sc]
set_option linter.unusedSimpArgs false

set_option maxHeartbeats 2000000 in
set_option maxRecDepth 100000 in
theorem perSection {c0 c1 c2 c3 c4 c5 c6 c7 c8 c9 c11 c12 c13 c14 c15 c16 c17 c19 c20 c21 c22 c23 c25 c26 c28 c29 c30 c31 c32 c33 c34 c35 c36 c37 c38 c39 c40 c41 c43 c44 c45 c46 c47 c48 c49 c50 c51 c52 c53 c54 c55 c56 c57 c58 c59 c60 c61 c62 c63 c64 c65 c66 c67 c68 c69 c70 c71 c72 c73 c74 c75 c76 c77 c78 c79 c80 c81 c82 c83 c84 c85 c86 c87 c88 c89 c90 c91 c92 c93 c94 c95 c96 c97 c98 c99 c100 c101 c102 c103 c104 c105 c106 c107 c108 c109 c110 c111 c112 c113 c114 c115 c116 c117 c118 c119 c120 c121 c122 c123 c124 c125 c126 c127 c128 c129 c130 c131 c132 c133 c134 c135 c136 c137 c138 c139 c140 c141 c142 c143 c144 c145 c146 c147 c148 c149 c150 c151 c152 c153 c154 c155 c156 c157 c158 c159 c160 c161 c162 c163 c164 c165 c166 c167 c168 c169 c170 c171 c172 c173 c174 c175 c176 c177 c178 c179 c180 c181 c182 c183 c184 c185 c186 c187 c188 c189 c190 c191 c192 c193 c194 c195 c196 c197 c198 c199 c200 c201 c202 c203 c204 c205 c206 c207 c208 c209 c210 c211 c212 c213 c214 c215 c216 c217 c218 c219 c220 c221 c222 c223 c224 c225 c226 c227 c228 c229 c230 c231 c232 c233 c234 c235 c236 c237 c238 c239 c240 c241 c242 c243 c244 c245 c246 c247 c248 c249 c250 c251 c252 c253 c254 c255 c256 c257 c258 c259 c260 c261 c262 c263 c264 c265 c266 c267 c268 c269 c270 c271 c272 c273 c274 c275 c276 c277 c278 c279 c280 c281 c282 c283 c284 c285 c286 c287 c288 c289 c290 c291 c292 c293 c294 c295 c296 c297 c298 c299 c300 c301 c302 c303 c304 c305 c306 c307 c308 c309 c310 c311 c312 c313 c314 c315 c316 c317 c318 c319 c320 c321 c322 c323 c324 c325 c326 c327 c328 c329 c330 c331 c332 c333 c334 c335 c336 c337 c338 c339 c340 c341 c342 c343 c344 c345 c346 c347 c348 c349 c350 c351 c352 c353 c354 c355 c356 c357 c358 c359 c360 c361 c362 c363 c364 c365 c366 c367 c368 c369 c370 c371 c372 c373 c374 c375 c376 c377 c378 c379 c380 c381 c382 c383 c384 c385 c386 c387 c388 c389 c390 c391 c392 c393 c394 c395 c396 c397 c398 c399 c400 c401 c402 c403 c404 c405 c406 c407 c408 c409 c410 c411 c412 c413 c414 c415 c416 c417 c418 c419 c420 c421 c422 c423 c424 c425 c426 c427 c428 c429 c430 c431 c432 c433 c434 c435 c436 c437 c438 c439 c440 c441 c442 c443 c444 c445 c446 c447 c448 c449 c450 c451 c452 c453 c454 c455 c456 c457 c458 c459 c460 c461 c462 c463 c464 c465 c466 c467 c468 c469 c470 c471 c472 c473 c474 c475 c476 c477 c478 c479 c480 c481 c482 c483 c484 c485 c486 c487 c488 c489 c490 c491 c492 c493 c494 c495 c496 c497 c498 c499 c500 c501 c502 c503 c504 c505 c506 c507 c508 c509 c510 c511 c512 : Value} (w0 w : World) (B : Nat) (ρ : Lb → Option Rw) (C mk pb nb ib S : Nat) (A : List Value) (vp vi : Nat → Value) (prow : Nat → List Rn) (pr : Nat → Bool) (acs6 : Nat → List Sp) (hM : Mm w0 w B ρ) (hS : S ≤ 6) (hA8 : A[8]? = some (.slice (some ⟨ib, 0, none⟩) S S)) (hA9 : A[9]? = some (.slice (some ⟨nb, 0, none⟩) S S))
    (hpr : ∀ k, k < S → pr k = !(prow k).isEmpty) (hrow : ∀ k, (prow k).length ≤ 4096 ∧ Fine S (prow k)) (hit : ∀ k, k < S → (∀ acc, SameSp (prow k) acc → acs6 k = acc) ∧ (acs6 k = [] → vi k = .slice none 0 0) ∧ Small (acs6 k))
    (h0 : ρ (4, 0) = some (bk C 43 10 1 1 A)) (h8 : ρ (8, 0) = some (bk nb 9 1 S S (strs S pr))) (h13 : ρ (13, 0) = some (bk ib 51 1 S S (vals S vi))) (h14 : ∀ k, k < S → ρ (14, k) = some ⟨vi k, 33, 2, (acs6 k).length, spc (acs6 k)⟩)
    (h30 : ρ (30, 0) = some (bk mk 4 1 65600 65600 marks)) (h33 : ρ (33, 0) = some (bk pb 30 1 S S (vals S vp))) (h34 : ∀ k, k < S → ρ (34, k) = some ⟨vp k, 29, 4, (prow k).length, fl Rn.enc (prow k)⟩) (h20 : ρ (20, 0) = none) (Q : Exit → Act → World → Prop)
    (hexit : ∀ (u8 u42 u43 u44 u45 u46 u369 u370 u371 u372 u373 u374 u375 u376 u377 u378 u379 u380 u381 u382 u383 u384 u385 u386 u387 u388 u389 u390 u391 u392 u393 u394 u395 u396 u397 u398 u399 u400 u401 u402 u403 u404 u405 u406 u407 u408 u409 u410 u411 u412 u413 u414 u415 u416 u417 : Value) (w' : World), Mm w0 w' B ρ → Q .normal ⟨#[c0, c1, c2, c3, c4, c5, c6, c7, u8, c9, .int .i64 (S : Nat), c11, c12, c13, c14, c15, c16, c17, .pointer (some ⟨C, 0, none⟩), c19, c20, c21, c22, c23, .slice (some ⟨mk, 0, none⟩) 65600 65600, c25, c26, .slice (some ⟨pb, 0, none⟩) S S, c28, c29, c30, c31, c32, c33, c34, c35, c36, c37, c38, c39, c40, c41, u42, u43, u44, u45, u46, c47, c48, c49, c50, c51, c52, c53, c54, c55, c56, c57, c58, c59, c60, c61, c62, c63, c64, c65, c66, c67, c68, c69, c70, c71, c72, c73, c74, c75, c76, c77, c78, c79, c80, c81, c82, c83, c84, c85, c86, c87, c88, c89, c90, c91, c92, c93, c94, c95, c96, c97, c98, c99, c100, c101, c102, c103, c104, c105, c106, c107, c108, c109, c110, c111, c112, c113, c114, c115, c116, c117, c118, c119, c120, c121, c122, c123, c124, c125, c126, c127, c128, c129, c130, c131, c132, c133, c134, c135, c136, c137, c138, c139, c140, c141, c142, c143, c144, c145, c146, c147, c148, c149, c150, c151, c152, c153, c154, c155, c156, c157, c158, c159, c160, c161, c162, c163, c164, c165, c166, c167, c168, c169, c170, c171, c172, c173, c174, c175, c176, c177, c178, c179, c180, c181, c182, c183, c184, c185, c186, c187, c188, c189, c190, c191, c192, c193, c194, c195, c196, c197, c198, c199, c200, c201, c202, c203, c204, c205, c206, c207, c208, c209, c210, c211, c212, c213, c214, c215, c216, c217, c218, c219, c220, c221, c222, c223, c224, c225, c226, c227, c228, c229, c230, c231, c232, c233, c234, c235, c236, c237, c238, c239, c240, c241, c242, c243, c244, c245, c246, c247, c248, c249, c250, c251, c252, c253, c254, c255, c256, c257, c258, c259, c260, c261, c262, c263, c264, c265, c266, c267, c268, c269, c270, c271, c272, c273, c274, c275, c276, c277, c278, c279, c280, c281, c282, c283, c284, c285, c286, c287, c288, c289, c290, c291, c292, c293, c294, c295, c296, c297, c298, c299, c300, c301, c302, c303, c304, c305, c306, c307, c308, c309, c310, c311, c312, c313, c314, c315, c316, c317, c318, c319, c320, c321, c322, c323, c324, c325, c326, c327, c328, c329, c330, c331, c332, c333, c334, c335, c336, c337, c338, c339, c340, c341, c342, c343, c344, c345, c346, c347, c348, c349, c350, c351, c352, c353, c354, c355, c356, c357, c358, c359, c360, c361, c362, c363, c364, c365, c366, c367, c368, u369, u370, u371, u372, u373, u374, u375, u376, u377, u378, u379, u380, u381, u382, u383, u384, u385, u386, u387, u388, u389, u390, u391, u392, u393, u394, u395, u396, u397, u398, u399, u400, u401, u402, u403, u404, u405, u406, u407, u408, u409, u410, u411, u412, u413, u414, u415, u416, u417, c418, c419, c420, c421, c422, c423, c424, c425, c426, c427, c428, c429, c430, c431, c432, c433, c434, c435, c436, c437, c438, c439, c440, c441, c442, c443, c444, c445, c446, c447, c448, c449, c450, c451, c452, c453, c454, c455, c456, c457, c458, c459, c460, c461, c462, c463, c464, c465, c466, c467, c468, c469, c470, c471, c472, c473, c474, c475, c476, c477, c478, c479, c480, c481, c482, c483, c484, c485, c486, c487, c488, c489, c490, c491, c492, c493, c494, c495, c496, c497, c498, c499, c500, c501, c502, c503, c504, c505, c506, c507, c508, c509, c510, c511, c512], []⟩ w') :
    Code.wp Yba.prog (pick [true, true, true, true, true, true, true, true, true, true, true, true, true, true, true, true, true, false, true] (Yba.f3.body.getD .skip)) Q ⟨#[c0, c1, c2, c3, c4, c5, c6, c7, c8, c9, .int .i64 (S : Nat), c11, c12, c13, c14, c15, c16, c17, .pointer (some ⟨C, 0, none⟩), c19, c20, c21, c22, c23, .slice (some ⟨mk, 0, none⟩) 65600 65600, c25, c26, .slice (some ⟨pb, 0, none⟩) S S, c28, c29, c30, c31, c32, c33, c34, c35, c36, c37, c38, c39, c40, c41, .int .i64 0, c43, c44, c45, c46, c47, c48, c49, c50, c51, c52, c53, c54, c55, c56, c57, c58, c59, c60, c61, c62, c63, c64, c65, c66, c67, c68, c69, c70, c71, c72, c73, c74, c75, c76, c77, c78, c79, c80, c81, c82, c83, c84, c85, c86, c87, c88, c89, c90, c91, c92, c93, c94, c95, c96, c97, c98, c99, c100, c101, c102, c103, c104, c105, c106, c107, c108, c109, c110, c111, c112, c113, c114, c115, c116, c117, c118, c119, c120, c121, c122, c123, c124, c125, c126, c127, c128, c129, c130, c131, c132, c133, c134, c135, c136, c137, c138, c139, c140, c141, c142, c143, c144, c145, c146, c147, c148, c149, c150, c151, c152, c153, c154, c155, c156, c157, c158, c159, c160, c161, c162, c163, c164, c165, c166, c167, c168, c169, c170, c171, c172, c173, c174, c175, c176, c177, c178, c179, c180, c181, c182, c183, c184, c185, c186, c187, c188, c189, c190, c191, c192, c193, c194, c195, c196, c197, c198, c199, c200, c201, c202, c203, c204, c205, c206, c207, c208, c209, c210, c211, c212, c213, c214, c215, c216, c217, c218, c219, c220, c221, c222, c223, c224, c225, c226, c227, c228, c229, c230, c231, c232, c233, c234, c235, c236, c237, c238, c239, c240, c241, c242, c243, c244, c245, c246, c247, c248, c249, c250, c251, c252, c253, c254, c255, c256, c257, c258, c259, c260, c261, c262, c263, c264, c265, c266, c267, c268, c269, c270, c271, c272, c273, c274, c275, c276, c277, c278, c279, c280, c281, c282, c283, c284, c285, c286, c287, c288, c289, c290, c291, c292, c293, c294, c295, c296, c297, c298, c299, c300, c301, c302, c303, c304, c305, c306, c307, c308, c309, c310, c311, c312, c313, c314, c315, c316, c317, c318, c319, c320, c321, c322, c323, c324, c325, c326, c327, c328, c329, c330, c331, c332, c333, c334, c335, c336, c337, c338, c339, c340, c341, c342, c343, c344, c345, c346, c347, c348, c349, c350, c351, c352, c353, c354, c355, c356, c357, c358, c359, c360, c361, c362, c363, c364, c365, c366, c367, c368, c369, c370, c371, c372, c373, c374, c375, c376, c377, c378, c379, c380, c381, c382, c383, c384, c385, c386, c387, c388, c389, c390, c391, c392, c393, c394, c395, c396, c397, c398, c399, c400, c401, c402, c403, c404, c405, c406, c407, c408, c409, c410, c411, c412, c413, c414, c415, c416, c417, c418, c419, c420, c421, c422, c423, c424, c425, c426, c427, c428, c429, c430, c431, c432, c433, c434, c435, c436, c437, c438, c439, c440, c441, c442, c443, c444, c445, c446, c447, c448, c449, c450, c451, c452, c453, c454, c455, c456, c457, c458, c459, c460, c461, c462, c463, c464, c465, c466, c467, c468, c469, c470, c471, c472, c473, c474, c475, c476, c477, c478, c479, c480, c481, c482, c483, c484, c485, c486, c487, c488, c489, c490, c491, c492, c493, c494, c495, c496, c497, c498, c499, c500, c501, c502, c503, c504, c505, c506, c507, c508, c509, c510, c511, c512], []⟩ w := by
  have HM : Hid (Mm w0 w B ρ) := hM
  have HA8 : Hid (A[8]? = some (.slice (some ⟨ib, 0, none⟩) S S)) := hA8
  have HA9 : Hid (A[9]? = some (.slice (some ⟨nb, 0, none⟩) S S)) := hA9
  have HPR : Hid (∀ k, k < S → pr k = !(prow k).isEmpty) := hpr
  have HROW : Hid (∀ k, (prow k).length ≤ 4096 ∧ Fine S (prow k)) := hrow
  have HIT : Hid (∀ k, k < S → (∀ acc, SameSp (prow k) acc → acs6 k = acc) ∧ (acs6 k = [] → vi k = .slice none 0 0) ∧ Small (acs6 k)) := hit
  have H0 : Hid (ρ (4, 0) = some (bk C 43 10 1 1 A)) := h0
  have H8 : Hid (ρ (8, 0) = some (bk nb 9 1 S S (strs S pr))) := h8
  have H13 : Hid (ρ (13, 0) = some (bk ib 51 1 S S (vals S vi))) := h13
  have H14 : Hid (∀ k, k < S → ρ (14, k) = some ⟨vi k, 33, 2, (acs6 k).length, spc (acs6 k)⟩) := h14
  have H30 : Hid (ρ (30, 0) = some (bk mk 4 1 65600 65600 marks)) := h30
  have H33 : Hid (ρ (33, 0) = some (bk pb 30 1 S S (vals S vp))) := h33
  have H34 : Hid (∀ k, k < S → ρ (34, k) = some ⟨vp k, 29, 4, (prow k).length, fl Rn.enc (prow k)⟩) := h34
  have H20 : Hid (ρ (20, 0) = none) := h20
  have HE : Hid (∀ (u8 u42 u43 u44 u45 u46 u369 u370 u371 u372 u373 u374 u375 u376 u377 u378 u379 u380 u381 u382 u383 u384 u385 u386 u387 u388 u389 u390 u391 u392 u393 u394 u395 u396 u397 u398 u399 u400 u401 u402 u403 u404 u405 u406 u407 u408 u409 u410 u411 u412 u413 u414 u415 u416 u417 : Value) (w' : World), Mm w0 w' B ρ → Q .normal ⟨#[c0, c1, c2, c3, c4, c5, c6, c7, u8, c9, .int .i64 (S : Nat), c11, c12, c13, c14, c15, c16, c17, .pointer (some ⟨C, 0, none⟩), c19, c20, c21, c22, c23, .slice (some ⟨mk, 0, none⟩) 65600 65600, c25, c26, .slice (some ⟨pb, 0, none⟩) S S, c28, c29, c30, c31, c32, c33, c34, c35, c36, c37, c38, c39, c40, c41, u42, u43, u44, u45, u46, c47, c48, c49, c50, c51, c52, c53, c54, c55, c56, c57, c58, c59, c60, c61, c62, c63, c64, c65, c66, c67, c68, c69, c70, c71, c72, c73, c74, c75, c76, c77, c78, c79, c80, c81, c82, c83, c84, c85, c86, c87, c88, c89, c90, c91, c92, c93, c94, c95, c96, c97, c98, c99, c100, c101, c102, c103, c104, c105, c106, c107, c108, c109, c110, c111, c112, c113, c114, c115, c116, c117, c118, c119, c120, c121, c122, c123, c124, c125, c126, c127, c128, c129, c130, c131, c132, c133, c134, c135, c136, c137, c138, c139, c140, c141, c142, c143, c144, c145, c146, c147, c148, c149, c150, c151, c152, c153, c154, c155, c156, c157, c158, c159, c160, c161, c162, c163, c164, c165, c166, c167, c168, c169, c170, c171, c172, c173, c174, c175, c176, c177, c178, c179, c180, c181, c182, c183, c184, c185, c186, c187, c188, c189, c190, c191, c192, c193, c194, c195, c196, c197, c198, c199, c200, c201, c202, c203, c204, c205, c206, c207, c208, c209, c210, c211, c212, c213, c214, c215, c216, c217, c218, c219, c220, c221, c222, c223, c224, c225, c226, c227, c228, c229, c230, c231, c232, c233, c234, c235, c236, c237, c238, c239, c240, c241, c242, c243, c244, c245, c246, c247, c248, c249, c250, c251, c252, c253, c254, c255, c256, c257, c258, c259, c260, c261, c262, c263, c264, c265, c266, c267, c268, c269, c270, c271, c272, c273, c274, c275, c276, c277, c278, c279, c280, c281, c282, c283, c284, c285, c286, c287, c288, c289, c290, c291, c292, c293, c294, c295, c296, c297, c298, c299, c300, c301, c302, c303, c304, c305, c306, c307, c308, c309, c310, c311, c312, c313, c314, c315, c316, c317, c318, c319, c320, c321, c322, c323, c324, c325, c326, c327, c328, c329, c330, c331, c332, c333, c334, c335, c336, c337, c338, c339, c340, c341, c342, c343, c344, c345, c346, c347, c348, c349, c350, c351, c352, c353, c354, c355, c356, c357, c358, c359, c360, c361, c362, c363, c364, c365, c366, c367, c368, u369, u370, u371, u372, u373, u374, u375, u376, u377, u378, u379, u380, u381, u382, u383, u384, u385, u386, u387, u388, u389, u390, u391, u392, u393, u394, u395, u396, u397, u398, u399, u400, u401, u402, u403, u404, u405, u406, u407, u408, u409, u410, u411, u412, u413, u414, u415, u416, u417, c418, c419, c420, c421, c422, c423, c424, c425, c426, c427, c428, c429, c430, c431, c432, c433, c434, c435, c436, c437, c438, c439, c440, c441, c442, c443, c444, c445, c446, c447, c448, c449, c450, c451, c452, c453, c454, c455, c456, c457, c458, c459, c460, c461, c462, c463, c464, c465, c466, c467, c468, c469, c470, c471, c472, c473, c474, c475, c476, c477, c478, c479, c480, c481, c482, c483, c484, c485, c486, c487, c488, c489, c490, c491, c492, c493, c494, c495, c496, c497, c498, c499, c500, c501, c502, c503, c504, c505, c506, c507, c508, c509, c510, c511, c512], []⟩ w') := hexit
  clear hM hA8 hA9 hpr hrow hit h0 h8 h13 h14 h30 h33 h34 h20 hexit
  conv => arg 2; whnf
  go_wp2_with fail
  go_loopw [42] (fun v42 wr => ∃ (k : Nat), v42 = .int .i64 k ∧ k ≤ S ∧ Hid (Mm w0 wr B ρ)) (fun v42 _ => S - (RowKit.intOf v42).toNat)
  case atStart => exact ⟨0, rfl, by omega, HM.out⟩
  case round =>
    obtain ⟨k, rfl, hk, HW⟩ := hrel
    by_cases hin : k < S
    · have s34 := H34.out k hin
      obtain ⟨a, c, hf⟩ := own_form (HW.out.mem.own _ _ s34)
      simp only at hf
      rw [hf] at s34
      have hrow := HROW.out k
      have hit := HIT.out k hin
      have hprk := HPR.out k hin
      have k0 : wr.cell? ⟨pb, k, none⟩ = some (.slice a (prow k).length c) := by rw [← hf]; exact HW.out.cell H33.out k (vals_at S vp k hin)
      have k1 : wr.cell? ⟨C, 9, none⟩ = some (.slice (some ⟨nb, 0, none⟩) S S) := HW.out.cell H0.out 9 HA9.out
      have k2 := HW.out.cell H8.out k (strs_at S pr k hin)
      have l0 := HW.out.lt H33.out
      have l1 := HW.out.lt H0.out
      have l2 := HW.out.lt H8.out
      obtain ⟨hit1, hit2, hit3⟩ := hit
      obtain ⟨hd4, hFd⟩ := hrow
      obtain ⟨d, HD⟩ : ∃ d, Hid (prow k = d) := ⟨_, rfl⟩
      rw [HD.out] at s34 k0 hit1 hd4 hFd hprk
      have S34 : Hid _ := s34
      have HIT1 : Hid (∀ acc, SameSp d acc → acs6 k = acc) := hit1
      have HIT2 : Hid (acs6 k = [] → vi k = .slice none 0 0) := hit2
      have HIT3 : Hid (Small (acs6 k)) := hit3
      have HFD : Hid (Fine S d) := hFd
      clear s34 hit1 hit2 hit3 hFd
      have hp1 : (0 : Int) ≤ (k : Int) := Int.natCast_nonneg _
      have hp2 : (k : Int) < (S : Int) := by omega
      clear hf
      by_cases hd0 : d = []
      · have hz : pr k = false := by rw [hprk, hd0]; rfl
        rw [hz] at k2
        simp only [Bool.false_eq_true, if_false] at k2
        have hdl : d.length = 0 := by rw [hd0]; rfl
        have hng : ¬ (0 : Int) < (d.length : Int) := by omega
        clear hprk hz hdl hd0
        have CU := unionOwn B S mk (.slice a d.length c) d wr hd4 (HW.out.mem.own _ _ S34.out) (HW.out.mem.own _ _ H30.out) (HW.out.apart S34.out H30.out (by simp) rfl) HFD.out
        have HCU : Hid _ := CU
        clear CU
        go_wp2_with fail
        refine Calls.mono HCU.out ?_
        rintro e w1 ⟨a1, c1, acc, rfl, hspans, hmk, hgr, hsame, hnil⟩
        have hacc : acs6 k = acc := HIT1.out acc hsame
        have M1 : Hid (Mm w0 w1 B (upd ρ (20, 0) (some ⟨.slice a1 acc.length c1, 33, 2, acc.length, spc acc⟩))) := by
          have h := HW.out.put H30.out hgr hmk (fun g hg => .inl hg)
          rw [upd_self _ _ _ H30.out] at h
          refine h.add (20, 0) ⟨.slice a1 acc.length c1, 33, 2, acc.length, spc acc⟩ (own_base hspans HW.out.le) (fun l2 r2 g hl2 hg2 e => ?_)
          have h1 := (HW.out.mem.lt hl2 hg2).2
          have h2 := (hspans.lt g e).1
          omega
        have t0 : upd ρ (20, 0) (some ⟨.slice a1 acc.length c1, 33, 2, acc.length, spc acc⟩) (4, 0) = some (bk C 43 10 1 1 A) := (upd_other _ _ (by simp)).trans H0.out
        have t13 : upd ρ (20, 0) (some ⟨.slice a1 acc.length c1, 33, 2, acc.length, spc acc⟩) (13, 0) = some (bk ib 51 1 S S (vals S vi)) := (upd_other _ _ (by simp)).trans H13.out
        have t14 : upd ρ (20, 0) (some ⟨.slice a1 acc.length c1, 33, 2, acc.length, spc acc⟩) (14, k) = some ⟨vi k, 33, 2, acc.length, spc acc⟩ := by rw [upd_other _ _ (by simp), H14.out k hin, hacc]
        have ow1 := M1.out.mem.own _ _ t14
        have ow2 := M1.out.mem.own (20, 0) _ (upd_same _ _ _)
        obtain ⟨ag, cg, hag⟩ := own_form ow1
        simp only at hag
        obtain ⟨bn, hbg, hbw⟩ : ∃ bn, ag.isNone = bn ∧ a1.isNone = bn := by
          by_cases hl0 : acc = []
          · have h1 := HIT2.out (by rw [hacc]; exact hl0)
            have h2 := hnil hl0
            rw [hag] at h1
            simp only [Value.slice.injEq] at h1 h2
            exact ⟨true, by rw [h1.1]; rfl, by rw [h2.1]; rfl⟩
          · have hlp := List.length_pos_iff.2 hl0
            obtain ⟨g1, c1', e1⟩ := Joins.ownsRow_form ow1 hlp
            obtain ⟨g2, c2', e2⟩ := Joins.ownsRow_form ow2 hlp
            simp only at e1 e2
            rw [hag] at e1
            simp only [Value.slice.injEq] at e1 e2
            exact ⟨false, by rw [e1.1]; rfl, by rw [e2.1]; rfl⟩
        have qg : ∀ w : World, (binOp .eql 51 (.slice ag acc.length cg) (.slice none 0 0)).run Yba.prog w = .ok (.bool bn) w := fun w => by rw [Lib.run_eql_slice_nil w _ _ ag acc.length cg 0 0 Yba.underlying51, hbg]
        have qw : ∀ w : World, (binOp .eql 51 (.slice a1 acc.length c1) (.slice none 0 0)).run Yba.prog w = .ok (.bool bn) w := fun w => by rw [Lib.run_eql_slice_nil w _ _ a1 acc.length c1 0 0 Yba.underlying51, hbw]
        have y1 : w1.cell? ⟨C, 8, none⟩ = some (.slice (some ⟨ib, 0, none⟩) S S) := M1.out.cell t0 8 HA8.out
        have y2 : w1.cell? ⟨ib, k, none⟩ = some (.slice ag acc.length cg) := by rw [← hag]; exact M1.out.cell t13 k (vals_at S vi k hin)
        have l0' := M1.out.lt t0
        have l13 := M1.out.lt t13
        have hll : acc.length ≤ 1048576 := by rw [← hacc]; have := HIT3.out.1; omega
        have CE : Hid (Calls Yba.prog 15 #[.slice ag acc.length cg, .slice a1 acc.length c1] w1 fun e w' => e = .returned (.bool true) ∧ ∃ q, w' = w1.drewN q) := equal15Own B B _ _ acc w1 hll (by rw [← hag]; exact ow1) ow2
        obtain ⟨ta, HTA⟩ : ∃ ta, Hid (tot acc = ta) := ⟨_, rfl⟩
        rw [HTA.out]
        clear t0 t13 t14 ow1 ow2 hag hbg hbw hll hspans hmk hgr hsame hnil HCU hacc
        go_wp2_with fail
        refine Calls.mono CE.out ?_
        rintro e w6 ⟨rfl, nq, rfl⟩
        clear CE
        have M6 : Hid (Mm w0 (w1.drewN nq) B ρ) := (M1.out.drewN nq).weak (fun x => by
          by_cases e1 : x = (20, 0)
          · subst e1; right; left; exact H20.out
          · left; rw [upd_other _ _ e1])
        go_wp2_with fail
        go_roundw
        case rel => exact ⟨k + 1, by go_num, by omega, M6.out⟩
        case measure => simp [RowKit.intOf]; omega

      · have hz : pr k = true := by rw [hprk]; cases d with | nil => exact absurd rfl hd0 | cons x l => rfl
        rw [hz] at k2
        simp only [if_true] at k2
        have hdl : 0 < d.length := List.length_pos_iff.2 hd0
        have hng : (0 : Int) < (d.length : Int) := by omega
        clear hprk hz hdl hd0
        go_wp2_with fail
        refine (aname (k : Int) wr).mono ?_
        rintro e w' ⟨rfl, rfl⟩
        have CU := unionOwn B S mk (.slice a d.length c) d w' hd4 (HW.out.mem.own _ _ S34.out) (HW.out.mem.own _ _ H30.out) (HW.out.apart S34.out H30.out (by simp) rfl) HFD.out
        have HCU : Hid _ := CU
        clear CU
        go_wp2_with fail
        refine Calls.mono HCU.out ?_
        rintro e w1 ⟨a1, c1, acc, rfl, hspans, hmk, hgr, hsame, hnil⟩
        have hacc : acs6 k = acc := HIT1.out acc hsame
        have M1 : Hid (Mm w0 w1 B (upd ρ (20, 0) (some ⟨.slice a1 acc.length c1, 33, 2, acc.length, spc acc⟩))) := by
          have h := HW.out.put H30.out hgr hmk (fun g hg => .inl hg)
          rw [upd_self _ _ _ H30.out] at h
          refine h.add (20, 0) ⟨.slice a1 acc.length c1, 33, 2, acc.length, spc acc⟩ (own_base hspans HW.out.le) (fun l2 r2 g hl2 hg2 e => ?_)
          have h1 := (HW.out.mem.lt hl2 hg2).2
          have h2 := (hspans.lt g e).1
          omega
        have t0 : upd ρ (20, 0) (some ⟨.slice a1 acc.length c1, 33, 2, acc.length, spc acc⟩) (4, 0) = some (bk C 43 10 1 1 A) := (upd_other _ _ (by simp)).trans H0.out
        have t13 : upd ρ (20, 0) (some ⟨.slice a1 acc.length c1, 33, 2, acc.length, spc acc⟩) (13, 0) = some (bk ib 51 1 S S (vals S vi)) := (upd_other _ _ (by simp)).trans H13.out
        have t14 : upd ρ (20, 0) (some ⟨.slice a1 acc.length c1, 33, 2, acc.length, spc acc⟩) (14, k) = some ⟨vi k, 33, 2, acc.length, spc acc⟩ := by rw [upd_other _ _ (by simp), H14.out k hin, hacc]
        have ow1 := M1.out.mem.own _ _ t14
        have ow2 := M1.out.mem.own (20, 0) _ (upd_same _ _ _)
        obtain ⟨ag, cg, hag⟩ := own_form ow1
        simp only at hag
        obtain ⟨bn, hbg, hbw⟩ : ∃ bn, ag.isNone = bn ∧ a1.isNone = bn := by
          by_cases hl0 : acc = []
          · have h1 := HIT2.out (by rw [hacc]; exact hl0)
            have h2 := hnil hl0
            rw [hag] at h1
            simp only [Value.slice.injEq] at h1 h2
            exact ⟨true, by rw [h1.1]; rfl, by rw [h2.1]; rfl⟩
          · have hlp := List.length_pos_iff.2 hl0
            obtain ⟨g1, c1', e1⟩ := Joins.ownsRow_form ow1 hlp
            obtain ⟨g2, c2', e2⟩ := Joins.ownsRow_form ow2 hlp
            simp only at e1 e2
            rw [hag] at e1
            simp only [Value.slice.injEq] at e1 e2
            exact ⟨false, by rw [e1.1]; rfl, by rw [e2.1]; rfl⟩
        have qg : ∀ w : World, (binOp .eql 51 (.slice ag acc.length cg) (.slice none 0 0)).run Yba.prog w = .ok (.bool bn) w := fun w => by rw [Lib.run_eql_slice_nil w _ _ ag acc.length cg 0 0 Yba.underlying51, hbg]
        have qw : ∀ w : World, (binOp .eql 51 (.slice a1 acc.length c1) (.slice none 0 0)).run Yba.prog w = .ok (.bool bn) w := fun w => by rw [Lib.run_eql_slice_nil w _ _ a1 acc.length c1 0 0 Yba.underlying51, hbw]
        have y1 : w1.cell? ⟨C, 8, none⟩ = some (.slice (some ⟨ib, 0, none⟩) S S) := M1.out.cell t0 8 HA8.out
        have y2 : w1.cell? ⟨ib, k, none⟩ = some (.slice ag acc.length cg) := by rw [← hag]; exact M1.out.cell t13 k (vals_at S vi k hin)
        have l0' := M1.out.lt t0
        have l13 := M1.out.lt t13
        have hll : acc.length ≤ 1048576 := by rw [← hacc]; have := HIT3.out.1; omega
        have CE : Hid (Calls Yba.prog 15 #[.slice ag acc.length cg, .slice a1 acc.length c1] w1 fun e w' => e = .returned (.bool true) ∧ ∃ q, w' = w1.drewN q) := equal15Own B B _ _ acc w1 hll (by rw [← hag]; exact ow1) ow2
        obtain ⟨ta, HTA⟩ : ∃ ta, Hid (tot acc = ta) := ⟨_, rfl⟩
        rw [HTA.out]
        clear t0 t13 t14 ow1 ow2 hag hbg hbw hll hspans hmk hgr hsame hnil HCU hacc
        go_wp2_with fail
        refine Calls.mono CE.out ?_
        rintro e w6 ⟨rfl, nq, rfl⟩
        clear CE
        have M6 : Hid (Mm w0 (w1.drewN nq) B ρ) := (M1.out.drewN nq).weak (fun x => by
          by_cases e1 : x = (20, 0)
          · subst e1; right; left; exact H20.out
          · left; rw [upd_other _ _ e1])
        go_wp2_with fail
        go_roundw
        case rel => exact ⟨k + 1, by go_num, by omega, M6.out⟩
        case measure => simp [RowKit.intOf]; omega

    · go_wp2_with fail
      exact HE.out _ _ _ _ _ _ _ _ _ _ _ _ _ _ _ _ _ _ _ _ _ _ _ _ _ _ _ _ _ _ _ _ _ _ _ _ _ _ _ _ _ _ _ _ _ _ _ _ _ _ _ _ _ _ _ _ HW.out

end Go.Proofs.Ybulkebla

