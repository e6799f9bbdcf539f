import Derived.Test.YbulkeblaAK3
/-! The law: Holdings hold each peer's runs, in order of first item. -/
namespace Go.Proofs.Ybulkebla
open Go.RowKit Go.Lib
set_option linter.unusedVariables false
set_option linter.unusedSectionVars false
variable [Inhabited Rn] [Inhabited Hs] [Inhabited Sc]
set_option linter.unusedSimpArgs false

set_option maxHeartbeats 4000000 in
set_option maxRecDepth 100000 in
theorem cmpHold {c0 c1 c2 c3 c4 c5 c6 c7 c8 c10 c11 c13 c14 c15 c16 c17 c20 c21 c22 c23 c24 c25 c26 c27 c28 c29 c30 c31 c32 c33 c34 c35 c36 c37 c38 c39 c40 c41 c42 c43 c44 c45 c46 c47 c48 c49 c50 c51 c52 c53 c54 c55 c56 c57 c58 c59 c60 c61 c62 c63 c64 c65 c66 c67 c68 c69 c70 c71 c72 c73 c74 c75 c76 c77 c78 c79 c80 c81 c82 c83 c84 c85 c86 c87 c88 c89 c90 c91 c92 c93 c94 c95 c96 c97 c98 c99 c100 c101 c102 c103 c104 c105 c106 c107 c108 c109 c110 c111 c112 c113 c114 c115 c116 c117 c118 c119 c120 c121 c122 c123 c124 c125 c126 c127 c128 c129 c130 c131 c132 c133 c134 c135 c136 c137 c138 c139 c140 c141 c142 c143 c144 c145 c146 c147 c148 c149 c150 c151 c152 c153 c154 c155 c156 c157 c158 c159 c160 c161 c162 c163 c164 c165 c166 c167 c168 c169 c170 c171 c172 c173 c174 c175 c176 c177 c178 c179 c180 c181 c182 c183 c184 c185 c186 c187 c188 c189 c190 c191 c192 c193 c194 c195 c196 c197 c198 c199 c200 c201 c202 c203 c204 c205 c206 c207 c208 c209 c210 c211 c212 c213 c214 c215 c216 c217 c218 c219 c220 c221 c222 c223 c224 c225 c226 c227 c228 c229 c230 c231 c232 c233 c234 c235 c236 c237 c238 c239 c240 c241 c242 c243 c244 c245 c246 c247 c248 c249 c250 c251 c252 c253 c254 c255 c256 c257 c258 c259 c260 c261 c262 c263 c264 c265 c266 c267 c268 c269 c270 c271 c272 c273 c274 c275 c276 c277 c278 c279 c280 c281 c282 c283 c284 c285 c286 c287 c288 c289 c290 c291 c292 c293 c294 c295 c296 c297 c298 c299 c300 c301 c302 c303 c304 c305 c306 c307 c308 c309 c310 c311 c312 c313 c314 c315 c316 c317 c318 c319 c320 c321 c322 c323 c324 c325 c326 c327 c328 c329 c330 c331 c332 c333 c334 c335 c336 c337 c338 c339 c340 c341 c342 c343 c344 c345 c346 c347 c348 c349 c350 c351 c352 c353 c354 c355 c356 c357 c358 c359 c360 c361 c362 c363 c364 c365 c366 c367 c368 c369 c370 c371 c372 c373 c374 c375 c376 c377 c378 c379 c380 c381 c382 c383 c384 c385 c386 c387 c388 c389 c390 c391 c392 c393 c394 c395 c396 c397 c398 c399 c400 c401 c402 c403 c404 c405 c406 c407 c408 c409 c410 c411 c412 c413 c414 c415 c416 c417 c418 c419 c420 c421 c422 c423 c424 c425 c426 c427 c428 c429 c430 c431 c432 c433 c434 c435 c436 c437 c438 c439 c440 c441 c442 c443 c444 c445 c446 c447 c448 c449 c450 c451 c452 c453 c454 c455 c456 c457 c458 c459 c460 c461 c462 c463 c464 c465 c466 c467 c468 c469 c470 c471 c472 c473 c474 c475 c476 c477 c478 c479 c480 c481 c482 c483 c484 c485 c486 c487 c488 c489 c490 c491 c492 c493 c494 c495 c496 c497 c498 c499 c500 c501 c502 c503 c504 c505 c506 c507 c508 c509 c510 c511 c512 : Value} (w0 w : World) (B : Nat) (ρ : Lb → Option Rw) (C hb wb P : Nat) (A : List Value) (hv wv : Nat → Value) (runs rr : Nat → List Rn) (hM : Mm w0 w B ρ) (hP : P ≤ 6) (hA0 : A[0]? = some (.slice (some ⟨hb, 0, none⟩) P P))
    (h0 : ρ (4, 0) = some (bk C 43 10 1 1 A)) (h1 : ρ (1, 0) = some (bk hb 30 1 P P (vals P hv))) (h3 : ρ (3, 0) = some (bk wb 30 1 P P (vals P wv))) (hr : ∀ q, q < P → ρ (0, q) = some ⟨hv q, 29, 4, (rr q).length, fl Rn.enc (rr q)⟩) (hw : ∀ q, q < P → ρ (2, q) = some ⟨wv q, 29, 4, (runs q).length, fl Rn.enc (runs q)⟩)
    (hp : ∀ q, q < P → (rr q).Perm (runs q) ∧ Asc1 (rr q) ∧ (runs q).length ≤ 4096) (h40 : ρ (40, 0) = none) (h41 : ρ (41, 0) = none) (Q : Exit → Act → World → Prop)
    (hexit : ∀ (u8 u19 u20 u21 u22 u23 u156 u157 u158 u159 u160 u161 u162 u163 u164 u165 u166 u167 u168 u169 u170 u171 u172 u173 u174 u175 u176 u177 u178 u179 u180 u181 u182 u183 u184 u185 u186 u187 u188 u189 u190 u191 u192 u193 u194 u195 u196 u197 u198 u199 u200 u201 u202 u203 u204 u205 u206 u207 u208 : Value) (w' : World), Mm w0 w' B ρ → Q .normal ⟨#[c0, c1, c2, c3, c4, c5, c6, c7, u8, .int .i64 (P : Nat), c10, c11, .slice (some ⟨wb, 0, none⟩) P P, c13, c14, c15, c16, c17, .pointer (some ⟨C, 0, none⟩), u19, u20, u21, u22, u23, c24, c25, c26, c27, c28, c29, c30, c31, c32, c33, c34, c35, c36, c37, c38, c39, c40, c41, c42, c43, c44, c45, c46, c47, c48, c49, c50, c51, c52, c53, c54, c55, c56, c57, c58, c59, c60, c61, c62, c63, c64, c65, c66, c67, c68, c69, c70, c71, c72, c73, c74, c75, c76, c77, c78, c79, c80, c81, c82, c83, c84, c85, c86, c87, c88, c89, c90, c91, c92, c93, c94, c95, c96, c97, c98, c99, c100, c101, c102, c103, c104, c105, c106, c107, c108, c109, c110, c111, c112, c113, c114, c115, c116, c117, c118, c119, c120, c121, c122, c123, c124, c125, c126, c127, c128, c129, c130, c131, c132, c133, c134, c135, c136, c137, c138, c139, c140, c141, c142, c143, c144, c145, c146, c147, c148, c149, c150, c151, c152, c153, c154, c155, u156, u157, u158, u159, u160, u161, u162, u163, u164, u165, u166, u167, u168, u169, u170, u171, u172, u173, u174, u175, u176, u177, u178, u179, u180, u181, u182, u183, u184, u185, u186, u187, u188, u189, u190, u191, u192, u193, u194, u195, u196, u197, u198, u199, u200, u201, u202, u203, u204, u205, u206, u207, u208, c209, c210, c211, c212, c213, c214, c215, c216, c217, c218, c219, c220, c221, c222, c223, c224, c225, c226, c227, c228, c229, c230, c231, c232, c233, c234, c235, c236, c237, c238, c239, c240, c241, c242, c243, c244, c245, c246, c247, c248, c249, c250, c251, c252, c253, c254, c255, c256, c257, c258, c259, c260, c261, c262, c263, c264, c265, c266, c267, c268, c269, c270, c271, c272, c273, c274, c275, c276, c277, c278, c279, c280, c281, c282, c283, c284, c285, c286, c287, c288, c289, c290, c291, c292, c293, c294, c295, c296, c297, c298, c299, c300, c301, c302, c303, c304, c305, c306, c307, c308, c309, c310, c311, c312, c313, c314, c315, c316, c317, c318, c319, c320, c321, c322, c323, c324, c325, c326, c327, c328, c329, c330, c331, c332, c333, c334, c335, c336, c337, c338, c339, c340, c341, c342, c343, c344, c345, c346, c347, c348, c349, c350, c351, c352, c353, c354, c355, c356, c357, c358, c359, c360, c361, c362, c363, c364, c365, c366, c367, c368, c369, c370, c371, c372, c373, c374, c375, c376, c377, c378, c379, c380, c381, c382, c383, c384, c385, c386, c387, c388, c389, c390, c391, c392, c393, c394, c395, c396, c397, c398, c399, c400, c401, c402, c403, c404, c405, c406, c407, c408, c409, c410, c411, c412, c413, c414, c415, c416, c417, c418, c419, c420, c421, c422, c423, c424, c425, c426, c427, c428, c429, c430, c431, c432, c433, c434, c435, c436, c437, c438, c439, c440, c441, c442, c443, c444, c445, c446, c447, c448, c449, c450, c451, c452, c453, c454, c455, c456, c457, c458, c459, c460, c461, c462, c463, c464, c465, c466, c467, c468, c469, c470, c471, c472, c473, c474, c475, c476, c477, c478, c479, c480, c481, c482, c483, c484, c485, c486, c487, c488, c489, c490, c491, c492, c493, c494, c495, c496, c497, c498, c499, c500, c501, c502, c503, c504, c505, c506, c507, c508, c509, c510, c511, c512], []⟩ w') :
    Code.wp Yba.prog (pick [true, true, true, true, true, true, true, true, true, true, false, true] (Yba.f3.body.getD .skip)) Q ⟨#[c0, c1, c2, c3, c4, c5, c6, c7, c8, .int .i64 (P : Nat), c10, c11, .slice (some ⟨wb, 0, none⟩) P P, c13, c14, c15, c16, c17, .pointer (some ⟨C, 0, none⟩), .int .i64 0, c20, c21, c22, c23, c24, c25, c26, c27, c28, c29, c30, c31, c32, c33, c34, c35, c36, c37, c38, c39, c40, c41, c42, c43, c44, c45, c46, c47, c48, c49, c50, c51, c52, c53, c54, c55, c56, c57, c58, c59, c60, c61, c62, c63, c64, c65, c66, c67, c68, c69, c70, c71, c72, c73, c74, c75, c76, c77, c78, c79, c80, c81, c82, c83, c84, c85, c86, c87, c88, c89, c90, c91, c92, c93, c94, c95, c96, c97, c98, c99, c100, c101, c102, c103, c104, c105, c106, c107, c108, c109, c110, c111, c112, c113, c114, c115, c116, c117, c118, c119, c120, c121, c122, c123, c124, c125, c126, c127, c128, c129, c130, c131, c132, c133, c134, c135, c136, c137, c138, c139, c140, c141, c142, c143, c144, c145, c146, c147, c148, c149, c150, c151, c152, c153, c154, c155, c156, c157, c158, c159, c160, c161, c162, c163, c164, c165, c166, c167, c168, c169, c170, c171, c172, c173, c174, c175, c176, c177, c178, c179, c180, c181, c182, c183, c184, c185, c186, c187, c188, c189, c190, c191, c192, c193, c194, c195, c196, c197, c198, c199, c200, c201, c202, c203, c204, c205, c206, c207, c208, c209, c210, c211, c212, c213, c214, c215, c216, c217, c218, c219, c220, c221, c222, c223, c224, c225, c226, c227, c228, c229, c230, c231, c232, c233, c234, c235, c236, c237, c238, c239, c240, c241, c242, c243, c244, c245, c246, c247, c248, c249, c250, c251, c252, c253, c254, c255, c256, c257, c258, c259, c260, c261, c262, c263, c264, c265, c266, c267, c268, c269, c270, c271, c272, c273, c274, c275, c276, c277, c278, c279, c280, c281, c282, c283, c284, c285, c286, c287, c288, c289, c290, c291, c292, c293, c294, c295, c296, c297, c298, c299, c300, c301, c302, c303, c304, c305, c306, c307, c308, c309, c310, c311, c312, c313, c314, c315, c316, c317, c318, c319, c320, c321, c322, c323, c324, c325, c326, c327, c328, c329, c330, c331, c332, c333, c334, c335, c336, c337, c338, c339, c340, c341, c342, c343, c344, c345, c346, c347, c348, c349, c350, c351, c352, c353, c354, c355, c356, c357, c358, c359, c360, c361, c362, c363, c364, c365, c366, c367, c368, c369, c370, c371, c372, c373, c374, c375, c376, c377, c378, c379, c380, c381, c382, c383, c384, c385, c386, c387, c388, c389, c390, c391, c392, c393, c394, c395, c396, c397, c398, c399, c400, c401, c402, c403, c404, c405, c406, c407, c408, c409, c410, c411, c412, c413, c414, c415, c416, c417, c418, c419, c420, c421, c422, c423, c424, c425, c426, c427, c428, c429, c430, c431, c432, c433, c434, c435, c436, c437, c438, c439, c440, c441, c442, c443, c444, c445, c446, c447, c448, c449, c450, c451, c452, c453, c454, c455, c456, c457, c458, c459, c460, c461, c462, c463, c464, c465, c466, c467, c468, c469, c470, c471, c472, c473, c474, c475, c476, c477, c478, c479, c480, c481, c482, c483, c484, c485, c486, c487, c488, c489, c490, c491, c492, c493, c494, c495, c496, c497, c498, c499, c500, c501, c502, c503, c504, c505, c506, c507, c508, c509, c510, c511, c512], []⟩ w := by
  have HM : Hid (Mm w0 w B ρ) := hM
  have H0 : Hid (ρ (4, 0) = some (bk C 43 10 1 1 A)) := h0
  have H1 : Hid (ρ (1, 0) = some (bk hb 30 1 P P (vals P hv))) := h1
  have H3 : Hid (ρ (3, 0) = some (bk wb 30 1 P P (vals P wv))) := h3
  have HR : Hid (∀ q, q < P → ρ (0, q) = some ⟨hv q, 29, 4, (rr q).length, fl Rn.enc (rr q)⟩) := hr
  have HWn : Hid (∀ q, q < P → ρ (2, q) = some ⟨wv q, 29, 4, (runs q).length, fl Rn.enc (runs q)⟩) := hw
  have HA : Hid (A[0]? = some (.slice (some ⟨hb, 0, none⟩) P P)) := hA0
  have HP : Hid (∀ q, q < P → (rr q).Perm (runs q) ∧ Asc1 (rr q) ∧ (runs q).length ≤ 4096) := hp
  have HE : Hid (∀ (u8 u19 u20 u21 u22 u23 u156 u157 u158 u159 u160 u161 u162 u163 u164 u165 u166 u167 u168 u169 u170 u171 u172 u173 u174 u175 u176 u177 u178 u179 u180 u181 u182 u183 u184 u185 u186 u187 u188 u189 u190 u191 u192 u193 u194 u195 u196 u197 u198 u199 u200 u201 u202 u203 u204 u205 u206 u207 u208 : Value) (w' : World), Mm w0 w' B ρ → Q .normal ⟨#[c0, c1, c2, c3, c4, c5, c6, c7, u8, .int .i64 (P : Nat), c10, c11, .slice (some ⟨wb, 0, none⟩) P P, c13, c14, c15, c16, c17, .pointer (some ⟨C, 0, none⟩), u19, u20, u21, u22, u23, c24, c25, c26, c27, c28, c29, c30, c31, c32, c33, c34, c35, c36, c37, c38, c39, c40, c41, c42, c43, c44, c45, c46, c47, c48, c49, c50, c51, c52, c53, c54, c55, c56, c57, c58, c59, c60, c61, c62, c63, c64, c65, c66, c67, c68, c69, c70, c71, c72, c73, c74, c75, c76, c77, c78, c79, c80, c81, c82, c83, c84, c85, c86, c87, c88, c89, c90, c91, c92, c93, c94, c95, c96, c97, c98, c99, c100, c101, c102, c103, c104, c105, c106, c107, c108, c109, c110, c111, c112, c113, c114, c115, c116, c117, c118, c119, c120, c121, c122, c123, c124, c125, c126, c127, c128, c129, c130, c131, c132, c133, c134, c135, c136, c137, c138, c139, c140, c141, c142, c143, c144, c145, c146, c147, c148, c149, c150, c151, c152, c153, c154, c155, u156, u157, u158, u159, u160, u161, u162, u163, u164, u165, u166, u167, u168, u169, u170, u171, u172, u173, u174, u175, u176, u177, u178, u179, u180, u181, u182, u183, u184, u185, u186, u187, u188, u189, u190, u191, u192, u193, u194, u195, u196, u197, u198, u199, u200, u201, u202, u203, u204, u205, u206, u207, u208, c209, c210, c211, c212, c213, c214, c215, c216, c217, c218, c219, c220, c221, c222, c223, c224, c225, c226, c227, c228, c229, c230, c231, c232, c233, c234, c235, c236, c237, c238, c239, c240, c241, c242, c243, c244, c245, c246, c247, c248, c249, c250, c251, c252, c253, c254, c255, c256, c257, c258, c259, c260, c261, c262, c263, c264, c265, c266, c267, c268, c269, c270, c271, c272, c273, c274, c275, c276, c277, c278, c279, c280, c281, c282, c283, c284, c285, c286, c287, c288, c289, c290, c291, c292, c293, c294, c295, c296, c297, c298, c299, c300, c301, c302, c303, c304, c305, c306, c307, c308, c309, c310, c311, c312, c313, c314, c315, c316, c317, c318, c319, c320, c321, c322, c323, c324, c325, c326, c327, c328, c329, c330, c331, c332, c333, c334, c335, c336, c337, c338, c339, c340, c341, c342, c343, c344, c345, c346, c347, c348, c349, c350, c351, c352, c353, c354, c355, c356, c357, c358, c359, c360, c361, c362, c363, c364, c365, c366, c367, c368, c369, c370, c371, c372, c373, c374, c375, c376, c377, c378, c379, c380, c381, c382, c383, c384, c385, c386, c387, c388, c389, c390, c391, c392, c393, c394, c395, c396, c397, c398, c399, c400, c401, c402, c403, c404, c405, c406, c407, c408, c409, c410, c411, c412, c413, c414, c415, c416, c417, c418, c419, c420, c421, c422, c423, c424, c425, c426, c427, c428, c429, c430, c431, c432, c433, c434, c435, c436, c437, c438, c439, c440, c441, c442, c443, c444, c445, c446, c447, c448, c449, c450, c451, c452, c453, c454, c455, c456, c457, c458, c459, c460, c461, c462, c463, c464, c465, c466, c467, c468, c469, c470, c471, c472, c473, c474, c475, c476, c477, c478, c479, c480, c481, c482, c483, c484, c485, c486, c487, c488, c489, c490, c491, c492, c493, c494, c495, c496, c497, c498, c499, c500, c501, c502, c503, c504, c505, c506, c507, c508, c509, c510, c511, c512], []⟩ w') := hexit
  have H40 : Hid (ρ (40, 0) = none) := h40
  have H41 : Hid (ρ (41, 0) = none) := h41
  clear hM h0 h1 h3 hr hw hA0 hp hexit h40 h41
  conv => arg 2; whnf
  go_wp2_with fail
  go_loopw [19] (fun v19 wr => ∃ (p : Nat), v19 = .int .i64 p ∧ p ≤ P ∧ Hid (Mm w0 wr B ρ)) (fun v19 _ => P - (RowKit.intOf v19).toNat)
  case atStart => exact ⟨0, rfl, by omega, HM.out⟩
  case round =>
    obtain ⟨p, rfl, hp, HW⟩ := hrel
    by_cases hin : p < P
    · have hpp := HP.out p hin
      have sr := HR.out p hin
      have sw := HWn.out p hin
      obtain ⟨a1, c1, hf1⟩ := own_form (HW.out.mem.own _ _ sr)
      obtain ⟨a2, c2, hf2⟩ := own_form (HW.out.mem.own _ _ sw)
      simp only at hf1 hf2
      have hlen : (runs p).length = (rr p).length := hpp.1.length_eq.symm
      rw [hlen] at hf2
      obtain ⟨d, HD⟩ : ∃ d, Hid (rr p = d) := ⟨_, rfl⟩
      rw [HD.out] at hf1 hf2 sr hlen
      have k0 : wr.cell? ⟨C, 0, none⟩ = some (.slice (some ⟨hb, 0, none⟩) P P) := HW.out.cell H0.out 0 HA.out
      have k1 : wr.cell? ⟨hb, p, none⟩ = some (.slice a1 d.length c1) := by rw [← hf1]; exact HW.out.cell H1.out p (vals_at P hv p hin)
      have k2 : wr.cell? ⟨wb, p, none⟩ = some (.slice a2 d.length c2) := by rw [← hf2]; exact HW.out.cell H3.out p (vals_at P wv p hin)
      have l0 := HW.out.lt H0.out
      have l1 := HW.out.lt H1.out
      have l2 := HW.out.lt H3.out
      have SR : Hid (ρ (0, p) = some ⟨.slice a1 d.length c1, 29, 4, d.length, fl Rn.enc d⟩) := by show _ = _; rw [sr, hf1]
      have SW : Hid (ρ (2, p) = some ⟨.slice a2 d.length c2, 29, 4, (runs p).length, fl Rn.enc (runs p)⟩) := by show _ = _; rw [sw, hf2]
      have HPM : Hid (d.Perm (runs p)) := by show List.Perm _ _; rw [← HD.out]; exact hpp.1
      have HAS : Hid (Asc1 d) := by show Asc1 _; rw [← HD.out]; exact hpp.2.1
      have HL : Hid ((runs p).length = d.length) := hlen
      have hd4 : d.length ≤ 4096 := by rw [← hlen]; exact hpp.2.2
      clear sr sw hf1 hf2 hpp hlen
      have hp1 : (0 : Int) ≤ (p : Int) := Int.natCast_nonneg _
      have hp2 : (p : Int) < (P : Int) := by omega
      go_upto_block 4 with fail
      refine ascRuns w0 wr B ρ (0, p) a1 c1 d HW.out hd4 SR.out HAS.out _ ?_
      intro x8 x21 x176 x177 x178 x179 x180 x181 x182 x183 x184 x185 x186 x187 x188 x189 x190 x191 x192 x193 w1 hm1
      have M1 : Hid (Mm w0 w1 B ρ) := hm1
      clear hm1 k0 k1 k2 l0 l1 l2
      go_wp2_with fail
      refine (cloneRunOwn B (.slice a1 d.length c1) d w1 (by omega) (M1.out.mem.own _ _ SR.out)).mono ?_
      rintro e w2 ⟨v2, rfl, ho2, hb2⟩
      obtain ⟨a3, c3, rfl⟩ := own_form ho2
      have M2 : Hid (Mm w0 w2 B (upd ρ (40, 0) (some ⟨.slice a3 d.length c3, 29, 4, d.length, fl Rn.enc d⟩))) := M1.out.made (40, 0) hb2 ⟨.slice a3 d.length c3, 29, 4, d.length, fl Rn.enc d⟩ ho2
      clear ho2 hb2
      have q3 : upd ρ (40, 0) (some ⟨.slice a3 d.length c3, 29, 4, d.length, fl Rn.enc d⟩) (3, 0) = _ := (upd_other _ _ (by simp)).trans H3.out
      have y1 : w2.cell? ⟨wb, p, none⟩ = some (.slice a2 d.length c2) := by
        have h := M2.out.cell q3 p (vals_at P wv p hin)
        have sw := HWn.out p hin
        rw [SW.out] at sw
        injection sw with sw
        injection sw with sw
        rw [← sw] at h; exact h
      have y2 := M2.out.lt q3
      clear q3
      go_wp2_with fail
      have q2 : upd ρ (40, 0) (some ⟨.slice a3 d.length c3, 29, 4, d.length, fl Rn.enc d⟩) (2, p) = some ⟨.slice a2 d.length c2, 29, 4, d.length, fl Rn.enc (runs p)⟩ := by rw [upd_other _ _ (by simp), SW.out, HL.out]
      have hrl : (runs p).length ≤ 1048576 := by rw [HL.out]; omega
      have CL : Hid (Calls Yba.prog 8 #[.slice a2 d.length c2] w2 fun e w' => ∃ v', e = .returned v' ∧ w'.ownsRow w2.heap.size 29 4 v' (runs p).length (fl Rn.enc (runs p)) ∧ Below w2.heap.size w2 w') :=
        cloneRunOwn B (.slice a2 d.length c2) (runs p) w2 hrl (by rw [HL.out]; exact M2.out.mem.own _ _ q2)
      refine Calls.mono CL.out ?_
      rintro e w3 ⟨v3, rfl, ho3, hb3⟩
      rw [HL.out] at ho3
      obtain ⟨a4, c4, rfl⟩ := own_form ho3
      have M3 : Hid (Mm w0 w3 B (upd (upd ρ (40, 0) (some ⟨.slice a3 d.length c3, 29, 4, d.length, fl Rn.enc d⟩)) (41, 0) (some ⟨.slice a4 d.length c4, 29, 4, d.length, fl Rn.enc (runs p)⟩))) := M2.out.made (41, 0) hb3 ⟨.slice a4 d.length c4, 29, 4, d.length, fl Rn.enc (runs p)⟩ ho3
      clear ho3 hb3 q2 hrl CL y1 y2
      go_wp2_with fail
      have q4 : upd (upd ρ (40, 0) (some ⟨.slice a3 d.length c3, 29, 4, d.length, fl Rn.enc d⟩)) (41, 0) (some ⟨.slice a4 d.length c4, 29, 4, d.length, fl Rn.enc (runs p)⟩) (40, 0) = some ⟨.slice a3 d.length c3, 29, 4, d.length, fl Rn.enc d⟩ := by rw [upd_other _ _ (by simp), upd_same]
      refine (sortFunc9Own B (.slice a3 d.length c3) d w3 hd4 (M3.out.mem.own _ _ q4)).mono ?_
      rintro e w4 ⟨rfl, d1, hp1', hs1, ho4, hg4⟩
      obtain ⟨ρ3, HR3⟩ : ∃ ρ3, Hid (upd (upd ρ (40, 0) (some ⟨.slice a3 d.length c3, 29, 4, d.length, fl Rn.enc d⟩)) (41, 0) (some ⟨.slice a4 d.length c4, 29, 4, d.length, fl Rn.enc (runs p)⟩) = ρ3) := ⟨_, rfl⟩
      have M4 : Hid (Mm w0 w4 B (upd ρ3 (40, 0) (some ⟨.slice a3 d.length c3, 29, 4, d.length, fl Rn.enc d1⟩))) := by show Mm _ _ _ _; rw [← HR3.out]; exact M3.out.put q4 hg4 ho4 (fun g hg => .inl hg)
      have HP1 : Hid (d1.Perm d) := hp1'
      have HS1 : Hid _ := hs1
      clear ho4 hg4 q4 hp1' hs1
      go_wp2_with fail
      have q5 : upd ρ3 (40, 0) (some ⟨.slice a3 d.length c3, 29, 4, d.length, fl Rn.enc d1⟩) (41, 0) = some ⟨.slice a4 d.length c4, 29, 4, d.length, fl Rn.enc (runs p)⟩ := by rw [upd_other _ _ (by simp), ← HR3.out, upd_same]
      have CL2 : Hid (Calls Yba.prog 9 #[.slice a4 d.length c4, .func (.func 10) #[] #[]] w4 fun e w' => e = .returned (.tuple #[]) ∧ ∃ d', d'.Perm (runs p) ∧ Sort.SortedIn (ltOf cmpRun) 0 (runs p).length d'.toArray ∧ w'.ownsRow B 29 4 (.slice a4 d.length c4) (runs p).length (fl Rn.enc d') ∧ w4.grownBy w' (Value.slice a4 d.length c4).ownBlock) :=
        sortFunc9Own B (.slice a4 d.length c4) (runs p) w4 (by rw [HL.out]; exact hd4) (by rw [HL.out]; exact M4.out.mem.own _ _ q5)
      refine Calls.mono CL2.out ?_
      rintro e w5 ⟨rfl, d2, hp2', hs2, ho5, hg5⟩
      rw [HL.out] at hs2 ho5
      have he : d1 = d2 := runs_one (d := d) HP1.out (hp2'.trans HPM.out.symm) HS1.out hs2
      subst he
      have M5 : Hid (Mm w0 w5 B (upd (upd ρ3 (40, 0) (some ⟨.slice a3 d.length c3, 29, 4, d.length, fl Rn.enc d1⟩)) (41, 0) (some ⟨.slice a4 d.length c4, 29, 4, d.length, fl Rn.enc d1⟩))) := M4.out.put q5 hg5 ho5 (fun g hg => .inl hg)
      clear ho5 hg5 hp2' hs2 q5 CL2
      go_wp2_with fail
      have hl1 : d1.length = d.length := HP1.out.length_eq
      have CE : Hid (Calls Yba.prog 11 #[.slice a3 d.length c3, .slice a4 d.length c4] w5 fun e w' => e = .returned (.bool true) ∧ ∃ q, w' = w5.drewN q) :=
        equal11Own B B (.slice a3 d.length c3) (.slice a4 d.length c4) d1 w5 (by rw [hl1]; omega) (by rw [hl1]; exact M5.out.mem.own (40, 0) _ (by rw [upd_other _ _ (by simp), upd_same])) (by rw [hl1]; exact M5.out.mem.own (41, 0) _ (upd_same _ _ _))
      refine Calls.mono CE.out ?_
      rintro e w6 ⟨rfl, nq, rfl⟩
      clear CE hl1
      have M6 : Hid (Mm w0 (w5.drewN nq) B ρ) := by
        refine (M5.out.drewN nq).weak (fun l => ?_)
        rw [← HR3.out]
        by_cases e1 : l = (40, 0)
        · right; left; subst e1; exact H40.out
        by_cases e2 : l = (41, 0)
        · right; left; subst e2; exact H41.out
        · left; simp [upd, e1, e2]
      go_wp2_with fail
      go_roundw
      case rel => exact ⟨p + 1, by go_num, by omega, M6.out⟩
      case measure => simp [RowKit.intOf]; omega
    · go_wp2_with fail
      exact HE.out _ _ _ _ _ _ _ _ _ _ _ _ _ _ _ _ _ _ _ _ _ _ _ _ _ _ _ _ _ _ _ _ _ _ _ _ _ _ _ _ _ _ _ _ _ _ _ _ _ _ _ _ _ _ _ _ _ _ _ _ HW.out

end Go.Proofs.Ybulkebla

