import Derived.Test.YbulkeblaAK8
/-! The law: reach is the running greatest last item. -/
namespace Go.Proofs.Ybulkebla
open Go.RowKit Go.Lib
set_option linter.unusedVariables false
set_option linter.unusedSectionVars false
variable [Inhabited Rn] [Inhabited Hs] [Inhabited Sc]
set_option linter.unusedSimpArgs false

/-- What m holds ahead of round i. -/
def mAt (d : List Hs) : Nat → Int
  | 0 => 0
  | i + 1 => rm d i

set_option maxHeartbeats 2000000 in
set_option maxRecDepth 100000 in
theorem reaches {c0 c1 c2 c3 c4 c5 c6 c7 c8 c9 c10 c11 c12 c13 c14 c15 c16 c17 c19 c20 c21 c22 c23 c24 c25 c26 c27 c28 c29 c30 c31 c32 c33 c34 c35 c36 c37 c38 c39 c40 c41 c42 c43 c44 c45 c46 c47 c48 c50 c51 c52 c53 c54 c55 c56 c57 c58 c59 c60 c61 c62 c63 c64 c65 c66 c67 c68 c69 c70 c71 c72 c73 c74 c75 c76 c77 c78 c79 c80 c81 c82 c83 c84 c85 c86 c87 c88 c89 c90 c91 c92 c93 c94 c95 c96 c97 c98 c99 c100 c101 c102 c103 c104 c105 c106 c107 c108 c109 c110 c111 c112 c113 c114 c115 c116 c117 c118 c119 c120 c121 c122 c123 c124 c125 c126 c127 c128 c129 c130 c131 c132 c133 c134 c135 c136 c137 c138 c139 c140 c141 c142 c143 c144 c145 c146 c147 c148 c149 c150 c151 c152 c153 c154 c155 c156 c157 c158 c159 c160 c161 c162 c163 c164 c165 c166 c167 c168 c169 c170 c171 c172 c173 c174 c175 c176 c177 c178 c179 c180 c181 c182 c183 c184 c185 c186 c187 c188 c189 c190 c191 c192 c193 c194 c195 c196 c197 c198 c199 c200 c201 c202 c203 c204 c205 c206 c207 c208 c209 c210 c211 c212 c213 c214 c215 c216 c217 c218 c219 c220 c221 c222 c223 c224 c225 c226 c227 c228 c229 c230 c231 c232 c233 c234 c235 c236 c237 c238 c239 c240 c241 c242 c243 c244 c245 c246 c247 c248 c249 c250 c251 c252 c253 c254 c255 c256 c257 c258 c259 c260 c261 c262 c263 c264 c265 c266 c267 c268 c269 c270 c271 c272 c273 c274 c275 c276 c277 c278 c279 c280 c281 c282 c283 c284 c285 c286 c287 c288 c289 c290 c291 c292 c293 c294 c295 c296 c297 c298 c299 c300 c301 c302 c303 c304 c305 c306 c307 c308 c309 c310 c311 c312 c313 c314 c315 c316 c317 c318 c319 c320 c321 c322 c323 c324 c325 c326 c327 c328 c329 c330 c331 c332 c333 c334 c335 c336 c337 c338 c339 c340 c341 c342 c343 c344 c345 c346 c347 c348 c349 c350 c351 c352 c353 c354 c355 c356 c357 c358 c359 c360 c361 c362 c363 c364 c365 c366 c367 c368 c369 c370 c371 c372 c373 c374 c375 c376 c377 c378 c379 c380 c381 c382 c383 c384 c385 c386 c387 c388 c389 c390 c391 c392 c393 c394 c395 c396 c397 c398 c399 c400 c401 c402 c403 c404 c405 c406 c407 c408 c409 c410 c411 c412 c413 c414 c415 c416 c417 c418 c419 c420 c421 c422 c423 c424 c425 c426 c427 c428 c429 c430 c431 c432 c433 c434 c435 c436 c437 c438 c439 c440 c441 c442 c443 c444 c445 c446 c447 c448 c449 c450 c451 c452 c453 c454 c455 c456 c457 c458 c459 c460 c461 c462 c463 c464 c465 c466 c467 c468 c469 c470 c471 c472 c473 c474 c475 c476 c477 c478 c479 c480 c481 c482 c483 c487 c488 c489 c490 c491 c492 c493 c494 c495 c496 c497 c498 c499 c500 c501 c502 c503 c504 c505 c506 c507 c508 c509 c510 c511 c512 : Value} (w0 w : World) (B : Nat) (ρ : Lb → Option Rw) (C eb : Nat) (A : List Value) (a : Option Addr) (c : Nat) (d : List Hs) (hM : Mm w0 w B ρ) (hd : d.length ≤ 4096) (hA6 : A[6]? = some (.slice (some ⟨eb, 0, none⟩) d.length d.length)) (h0 : ρ (4, 0) = some (bk C 43 10 1 1 A))
    (hx : ρ (12, 0) = some ⟨.slice a d.length c, 35, 3, d.length, fl Hs.enc d⟩) (h15 : ρ (15, 0) = some (bk eb 2 1 d.length d.length (rch d d.length))) (Q : Exit → Act → World → Prop)
    (hexit : ∀ (u8 u49 u50 u51 u486 u487 u488 u489 u490 u491 u492 u493 u494 u495 u496 u497 u498 u499 u500 u501 u502 u503 u504 u505 u506 u507 u508 u509 u510 u511 u512 : Value) (w' : World), Mm w0 w' B ρ → Q .normal ⟨#[c0, c1, c2, c3, c4, c5, c6, c7, u8, c9, c10, c11, c12, c13, c14, c15, c16, c17, .pointer (some ⟨C, 0, none⟩), c19, c20, c21, c22, c23, c24, c25, c26, c27, c28, c29, c30, c31, c32, c33, c34, c35, c36, c37, c38, c39, c40, c41, c42, c43, c44, c45, c46, c47, c48, u49, u50, u51, c52, c53, c54, c55, c56, c57, c58, c59, c60, c61, c62, c63, c64, c65, c66, c67, c68, c69, c70, c71, c72, c73, c74, c75, c76, c77, c78, c79, c80, c81, c82, c83, c84, c85, c86, c87, c88, c89, c90, c91, c92, c93, c94, c95, c96, c97, c98, c99, c100, c101, c102, c103, c104, c105, c106, c107, c108, c109, c110, c111, c112, c113, c114, c115, c116, c117, c118, c119, c120, c121, c122, c123, c124, c125, c126, c127, c128, c129, c130, c131, c132, c133, c134, c135, c136, c137, c138, c139, c140, c141, c142, c143, c144, c145, c146, c147, c148, c149, c150, c151, c152, c153, c154, c155, c156, c157, c158, c159, c160, c161, c162, c163, c164, c165, c166, c167, c168, c169, c170, c171, c172, c173, c174, c175, c176, c177, c178, c179, c180, c181, c182, c183, c184, c185, c186, c187, c188, c189, c190, c191, c192, c193, c194, c195, c196, c197, c198, c199, c200, c201, c202, c203, c204, c205, c206, c207, c208, c209, c210, c211, c212, c213, c214, c215, c216, c217, c218, c219, c220, c221, c222, c223, c224, c225, c226, c227, c228, c229, c230, c231, c232, c233, c234, c235, c236, c237, c238, c239, c240, c241, c242, c243, c244, c245, c246, c247, c248, c249, c250, c251, c252, c253, c254, c255, c256, c257, c258, c259, c260, c261, c262, c263, c264, c265, c266, c267, c268, c269, c270, c271, c272, c273, c274, c275, c276, c277, c278, c279, c280, c281, c282, c283, c284, c285, c286, c287, c288, c289, c290, c291, c292, c293, c294, c295, c296, c297, c298, c299, c300, c301, c302, c303, c304, c305, c306, c307, c308, c309, c310, c311, c312, c313, c314, c315, c316, c317, c318, c319, c320, c321, c322, c323, c324, c325, c326, c327, c328, c329, c330, c331, c332, c333, c334, c335, c336, c337, c338, c339, c340, c341, c342, c343, c344, c345, c346, c347, c348, c349, c350, c351, c352, c353, c354, c355, c356, c357, c358, c359, c360, c361, c362, c363, c364, c365, c366, c367, c368, c369, c370, c371, c372, c373, c374, c375, c376, c377, c378, c379, c380, c381, c382, c383, c384, c385, c386, c387, c388, c389, c390, c391, c392, c393, c394, c395, c396, c397, c398, c399, c400, c401, c402, c403, c404, c405, c406, c407, c408, c409, c410, c411, c412, c413, c414, c415, c416, c417, c418, c419, c420, c421, c422, c423, c424, c425, c426, c427, c428, c429, c430, c431, c432, c433, c434, c435, c436, c437, c438, c439, c440, c441, c442, c443, c444, c445, c446, c447, c448, c449, c450, c451, c452, c453, c454, c455, c456, c457, c458, c459, c460, c461, c462, c463, c464, c465, c466, c467, c468, c469, c470, c471, c472, c473, c474, c475, c476, c477, c478, c479, c480, c481, c482, c483, .slice a (d.length : Nat) c, .int .i64 (d.length : Nat), u486, u487, u488, u489, u490, u491, u492, u493, u494, u495, u496, u497, u498, u499, u500, u501, u502, u503, u504, u505, u506, u507, u508, u509, u510, u511, u512], []⟩ w') :
    Code.wp Yba.prog (pick [true, true, true, true, true, true, true, true, true, true, true, true, true, true, true, true, true, true, true, true, true, true, true, true, true, false, true] (Yba.f3.body.getD .skip)) Q ⟨#[c0, c1, c2, c3, c4, c5, c6, c7, c8, c9, c10, c11, c12, c13, c14, c15, c16, c17, .pointer (some ⟨C, 0, none⟩), c19, c20, c21, c22, c23, c24, c25, c26, c27, c28, c29, c30, c31, c32, c33, c34, c35, c36, c37, c38, c39, c40, c41, c42, c43, c44, c45, c46, c47, c48, .int .i64 0, c50, c51, c52, c53, c54, c55, c56, c57, c58, c59, c60, c61, c62, c63, c64, c65, c66, c67, c68, c69, c70, c71, c72, c73, c74, c75, c76, c77, c78, c79, c80, c81, c82, c83, c84, c85, c86, c87, c88, c89, c90, c91, c92, c93, c94, c95, c96, c97, c98, c99, c100, c101, c102, c103, c104, c105, c106, c107, c108, c109, c110, c111, c112, c113, c114, c115, c116, c117, c118, c119, c120, c121, c122, c123, c124, c125, c126, c127, c128, c129, c130, c131, c132, c133, c134, c135, c136, c137, c138, c139, c140, c141, c142, c143, c144, c145, c146, c147, c148, c149, c150, c151, c152, c153, c154, c155, c156, c157, c158, c159, c160, c161, c162, c163, c164, c165, c166, c167, c168, c169, c170, c171, c172, c173, c174, c175, c176, c177, c178, c179, c180, c181, c182, c183, c184, c185, c186, c187, c188, c189, c190, c191, c192, c193, c194, c195, c196, c197, c198, c199, c200, c201, c202, c203, c204, c205, c206, c207, c208, c209, c210, c211, c212, c213, c214, c215, c216, c217, c218, c219, c220, c221, c222, c223, c224, c225, c226, c227, c228, c229, c230, c231, c232, c233, c234, c235, c236, c237, c238, c239, c240, c241, c242, c243, c244, c245, c246, c247, c248, c249, c250, c251, c252, c253, c254, c255, c256, c257, c258, c259, c260, c261, c262, c263, c264, c265, c266, c267, c268, c269, c270, c271, c272, c273, c274, c275, c276, c277, c278, c279, c280, c281, c282, c283, c284, c285, c286, c287, c288, c289, c290, c291, c292, c293, c294, c295, c296, c297, c298, c299, c300, c301, c302, c303, c304, c305, c306, c307, c308, c309, c310, c311, c312, c313, c314, c315, c316, c317, c318, c319, c320, c321, c322, c323, c324, c325, c326, c327, c328, c329, c330, c331, c332, c333, c334, c335, c336, c337, c338, c339, c340, c341, c342, c343, c344, c345, c346, c347, c348, c349, c350, c351, c352, c353, c354, c355, c356, c357, c358, c359, c360, c361, c362, c363, c364, c365, c366, c367, c368, c369, c370, c371, c372, c373, c374, c375, c376, c377, c378, c379, c380, c381, c382, c383, c384, c385, c386, c387, c388, c389, c390, c391, c392, c393, c394, c395, c396, c397, c398, c399, c400, c401, c402, c403, c404, c405, c406, c407, c408, c409, c410, c411, c412, c413, c414, c415, c416, c417, c418, c419, c420, c421, c422, c423, c424, c425, c426, c427, c428, c429, c430, c431, c432, c433, c434, c435, c436, c437, c438, c439, c440, c441, c442, c443, c444, c445, c446, c447, c448, c449, c450, c451, c452, c453, c454, c455, c456, c457, c458, c459, c460, c461, c462, c463, c464, c465, c466, c467, c468, c469, c470, c471, c472, c473, c474, c475, c476, c477, c478, c479, c480, c481, c482, c483, .slice a (d.length : Nat) c, .int .i64 (d.length : Nat), .int .i64 0, c487, c488, c489, c490, c491, c492, c493, c494, c495, c496, c497, c498, c499, c500, c501, c502, c503, c504, c505, c506, c507, c508, c509, c510, c511, c512], []⟩ w := by
  have HM : Hid (Mm w0 w B ρ) := hM
  have H0 : Hid (ρ (4, 0) = some (bk C 43 10 1 1 A)) := h0
  obtain ⟨n, hn⟩ : ∃ n, d.length = n := ⟨_, rfl⟩
  have HX : Hid (ρ (12, 0) = some ⟨.slice a n c, 35, 3, n, fl Hs.enc d⟩) := by show _ = _; rw [← hn]; exact hx
  have HA6 : Hid (A[6]? = some (.slice (some ⟨eb, 0, none⟩) n n)) := by show _ = _; rw [← hn]; exact hA6
  have H15 : Hid (ρ (15, 0) = some (bk eb 2 1 n n (rch d n))) := by show _ = _; rw [← hn]; exact h15
  have HE : Hid (∀ (u8 u49 u50 u51 u486 u487 u488 u489 u490 u491 u492 u493 u494 u495 u496 u497 u498 u499 u500 u501 u502 u503 u504 u505 u506 u507 u508 u509 u510 u511 u512 : Value) (w' : World), Mm w0 w' B ρ → Q .normal ⟨#[c0, c1, c2, c3, c4, c5, c6, c7, u8, c9, c10, c11, c12, c13, c14, c15, c16, c17, .pointer (some ⟨C, 0, none⟩), c19, c20, c21, c22, c23, c24, c25, c26, c27, c28, c29, c30, c31, c32, c33, c34, c35, c36, c37, c38, c39, c40, c41, c42, c43, c44, c45, c46, c47, c48, u49, u50, u51, c52, c53, c54, c55, c56, c57, c58, c59, c60, c61, c62, c63, c64, c65, c66, c67, c68, c69, c70, c71, c72, c73, c74, c75, c76, c77, c78, c79, c80, c81, c82, c83, c84, c85, c86, c87, c88, c89, c90, c91, c92, c93, c94, c95, c96, c97, c98, c99, c100, c101, c102, c103, c104, c105, c106, c107, c108, c109, c110, c111, c112, c113, c114, c115, c116, c117, c118, c119, c120, c121, c122, c123, c124, c125, c126, c127, c128, c129, c130, c131, c132, c133, c134, c135, c136, c137, c138, c139, c140, c141, c142, c143, c144, c145, c146, c147, c148, c149, c150, c151, c152, c153, c154, c155, c156, c157, c158, c159, c160, c161, c162, c163, c164, c165, c166, c167, c168, c169, c170, c171, c172, c173, c174, c175, c176, c177, c178, c179, c180, c181, c182, c183, c184, c185, c186, c187, c188, c189, c190, c191, c192, c193, c194, c195, c196, c197, c198, c199, c200, c201, c202, c203, c204, c205, c206, c207, c208, c209, c210, c211, c212, c213, c214, c215, c216, c217, c218, c219, c220, c221, c222, c223, c224, c225, c226, c227, c228, c229, c230, c231, c232, c233, c234, c235, c236, c237, c238, c239, c240, c241, c242, c243, c244, c245, c246, c247, c248, c249, c250, c251, c252, c253, c254, c255, c256, c257, c258, c259, c260, c261, c262, c263, c264, c265, c266, c267, c268, c269, c270, c271, c272, c273, c274, c275, c276, c277, c278, c279, c280, c281, c282, c283, c284, c285, c286, c287, c288, c289, c290, c291, c292, c293, c294, c295, c296, c297, c298, c299, c300, c301, c302, c303, c304, c305, c306, c307, c308, c309, c310, c311, c312, c313, c314, c315, c316, c317, c318, c319, c320, c321, c322, c323, c324, c325, c326, c327, c328, c329, c330, c331, c332, c333, c334, c335, c336, c337, c338, c339, c340, c341, c342, c343, c344, c345, c346, c347, c348, c349, c350, c351, c352, c353, c354, c355, c356, c357, c358, c359, c360, c361, c362, c363, c364, c365, c366, c367, c368, c369, c370, c371, c372, c373, c374, c375, c376, c377, c378, c379, c380, c381, c382, c383, c384, c385, c386, c387, c388, c389, c390, c391, c392, c393, c394, c395, c396, c397, c398, c399, c400, c401, c402, c403, c404, c405, c406, c407, c408, c409, c410, c411, c412, c413, c414, c415, c416, c417, c418, c419, c420, c421, c422, c423, c424, c425, c426, c427, c428, c429, c430, c431, c432, c433, c434, c435, c436, c437, c438, c439, c440, c441, c442, c443, c444, c445, c446, c447, c448, c449, c450, c451, c452, c453, c454, c455, c456, c457, c458, c459, c460, c461, c462, c463, c464, c465, c466, c467, c468, c469, c470, c471, c472, c473, c474, c475, c476, c477, c478, c479, c480, c481, c482, c483, .slice a (d.length : Nat) c, .int .i64 (d.length : Nat), u486, u487, u488, u489, u490, u491, u492, u493, u494, u495, u496, u497, u498, u499, u500, u501, u502, u503, u504, u505, u506, u507, u508, u509, u510, u511, u512], []⟩ w') := hexit
  rw [hn] at hd ⊢
  have HN : Hid (d.length = n) := hn
  clear hM hx hexit h0 hA6 h15 hn
  conv => arg 2; whnf
  go_wp2_with fail
  go_loopw [49, 486] (fun v49 v486 wr => ∃ (i : Nat), v486 = .int .i64 i ∧ v49 = .int .i64 (mAt d i) ∧ i ≤ n ∧ Hid (Mm w0 wr B ρ)) (fun _ v486 _ => n - (RowKit.intOf v486).toNat)
  case atStart => exact ⟨0, rfl, rfl, by omega, HM.out⟩
  case round =>
    obtain ⟨i, rfl, rfl, hi, HW⟩ := hrel
    by_cases hin : i < n
    · have hr := HX.out
      have ho := HW.out.mem.own _ _ hr
      obtain ⟨g, cap, hv⟩ := Joins.ownsRow_form ho (by show 0 < n; omega)
      simp only [Value.slice.injEq] at hv
      obtain ⟨ha, _, hc⟩ := hv
      subst ha hc
      have hlen : ∀ x : Hs, (Hs.enc x).length = 3 := fun _ => rfl
      have hin2 : i < d.length := by rw [HN.out]; exact hin
      have cc0 := fl_at Hs.enc 3 hlen d i 0 hin2 (by omega)
      have cc1 := fl_at Hs.enc 3 hlen d i 1 hin2 (by omega)
      have cc2 := fl_at Hs.enc 3 hlen d i 2 hin2 (by omega)
      rw [Nat.add_zero] at cc0
      obtain ⟨sf, HSF⟩ : ∃ sf, Hid ((d.getD i default).first = sf) := ⟨_, rfl⟩
      obtain ⟨sl, HSL⟩ : ∃ sl, Hid ((d.getD i default).last = sl) := ⟨_, rfl⟩
      obtain ⟨sp, HSP⟩ : ∃ sp, Hid ((d.getD i default).peer = sp) := ⟨_, rfl⟩
      have k0 : wr.cell? ⟨g, i * 3, none⟩ = some (.int .i64 sf) := HW.out.cell hr (i * 3) (by rw [cc0, ← HSF.out]; rfl)
      have k1 : wr.cell? ⟨g, i * 3 + 1, none⟩ = some (.int .i64 sl) := HW.out.cell hr (i * 3 + 1) (by rw [cc1, ← HSL.out]; rfl)
      have k2 : wr.cell? ⟨g, i * 3 + 2, none⟩ = some (.int .i32 sp) := HW.out.cell hr (i * 3 + 2) (by rw [cc2, ← HSP.out]; rfl)
      have kc : wr.cell? ⟨C, 6, none⟩ = some (.slice (some ⟨eb, 0, none⟩) n n) := HW.out.cell H0.out 6 HA6.out
      have ke : wr.cell? ⟨eb, i, none⟩ = some (.int .i64 (rm d i)) := HW.out.cell H15.out i (by unfold rch; rw [vals_at _ _ i hin2]; simp [hin])
      have lg := HW.out.lt hr
      have lc := HW.out.lt H0.out
      have le := HW.out.lt H15.out
      have lc1 : C < wr.heap.size + 1 := by omega
      have le1 : eb < wr.heap.size + 1 := by omega
      have kc1 : (wr.alloc (.cells #[.int .i64 sf, .int .i64 sl, .int .i32 sp] 35)).cell? ⟨C, 6, none⟩ = some (.slice (some ⟨eb, 0, none⟩) n n) := (HW.out.alloc _).cell H0.out 6 HA6.out
      have ke1 : (wr.alloc (.cells #[.int .i64 sf, .int .i64 sl, .int .i32 sp] 35)).cell? ⟨eb, i, none⟩ = some (.int .i64 (rm d i)) := (HW.out.alloc _).cell H15.out i (by unfold rch; rw [vals_at _ _ i hin2]; simp [hin])
      clear cc0 cc1 cc2 ho hlen hr
      have hp1 : (0 : Int) ≤ (i : Int) := by omega
      have hp2 : (i : Int) < (n : Int) := by omega
      rcases Nat.eq_zero_or_pos i with hz | hz
      · subst hz
        have e0 : rm d 0 = sl := HSL.out
        rw [e0] at ke ke1
        have E0 : Hid _ := e0
        clear e0
        go_wp2_with fail
        go_roundw
        case rel => exact ⟨1, by go_num, by rw [show mAt d 1 = rm d 0 from rfl, E0.out], by omega, HW.out.alloc _⟩
        case measure => simp [RowKit.intOf]; omega
      · obtain ⟨j, rfl⟩ : ∃ j, i = j + 1 := ⟨i - 1, by omega⟩
        obtain ⟨mj, HMJ⟩ : ∃ mj, Hid (rm d j = mj) := ⟨_, rfl⟩
        have em : mAt d (j + 1) = mj := HMJ.out
        have er : rm d (j + 1) = max sl mj := by show max _ _ = _; rw [HSL.out, HMJ.out]
        rw [em]
        rw [er] at ke ke1
        have ER : Hid _ := er
        clear em er
        have hne : ((j : Int) + 1 == 0) = false := by simp; omega
        by_cases hgt : mj < sl
        · have hmx : max sl mj = sl := by omega
          rw [hmx] at ke ke1
          have HMX : Hid _ := hmx
          clear hmx
          go_wp2_with fail
          go_roundw
          case rel => exact ⟨j + 1 + 1, by go_num, by rw [show mAt d (j + 1 + 1) = rm d (j + 1) from rfl, ER.out, HMX.out], by omega, HW.out.alloc _⟩
          case measure => simp [RowKit.intOf]; omega
        · have hmx : max sl mj = mj := by omega
          rw [hmx] at ke ke1
          have HMX : Hid _ := hmx
          clear hmx
          go_wp2_with fail
          go_roundw
          case rel => exact ⟨j + 1 + 1, by go_num, by rw [show mAt d (j + 1 + 1) = rm d (j + 1) from rfl, ER.out, HMX.out], by omega, HW.out.alloc _⟩
          case measure => simp [RowKit.intOf]; omega
    · go_wp2_with fail
      have he := HE.out
      rw [HN.out] at he
      exact he _ _ _ _ _ _ _ _ _ _ _ _ _ _ _ _ _ _ _ _ _ _ _ _ _ _ _ _ _ _ _ _ HW.out

end Go.Proofs.Ybulkebla

