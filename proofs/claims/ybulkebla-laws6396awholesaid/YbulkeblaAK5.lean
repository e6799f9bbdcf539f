import Derived.Test.YbulkeblaAK2
/-! The law: a peer's spans are gathered. -/
namespace Go.Proofs.Ybulkebla
open Go.RowKit Go.Lib
set_option linter.unusedVariables false
set_option linter.unusedSectionVars false
variable [Inhabited Rn] [Inhabited Hs] [Inhabited Sc]
set_option linter.unusedSimpArgs false

set_option maxHeartbeats 4000000 in
set_option maxRecDepth 100000 in
theorem gather {c0 c1 c2 c3 c4 c5 c6 c7 c8 c9 c10 c11 c12 c13 c14 c15 c16 c17 c18 c19 c20 c21 c22 c23 c24 c25 c27 c29 c30 c31 c32 c33 c34 c35 c36 c37 c38 c39 c40 c41 c42 c43 c44 c45 c46 c47 c48 c49 c50 c51 c52 c53 c54 c55 c56 c57 c58 c59 c60 c61 c62 c63 c64 c65 c66 c67 c68 c69 c70 c71 c72 c73 c74 c75 c76 c77 c78 c79 c80 c81 c82 c83 c84 c85 c86 c87 c88 c89 c90 c91 c92 c93 c94 c95 c96 c97 c98 c99 c100 c101 c102 c103 c104 c105 c106 c107 c108 c109 c110 c111 c112 c113 c114 c115 c116 c117 c118 c119 c120 c121 c122 c123 c124 c125 c126 c127 c128 c129 c130 c131 c132 c133 c134 c135 c136 c137 c138 c139 c140 c141 c142 c143 c144 c145 c146 c147 c148 c149 c150 c151 c152 c153 c154 c155 c156 c157 c158 c159 c160 c161 c162 c163 c164 c165 c166 c167 c168 c169 c170 c171 c172 c173 c174 c175 c176 c177 c178 c179 c180 c181 c182 c183 c184 c185 c186 c187 c188 c189 c190 c191 c192 c193 c194 c195 c196 c197 c198 c199 c200 c201 c202 c203 c204 c205 c206 c207 c208 c209 c210 c211 c212 c213 c214 c215 c216 c217 c218 c219 c220 c221 c222 c223 c224 c225 c226 c227 c228 c229 c230 c231 c232 c233 c234 c235 c236 c237 c238 c239 c240 c241 c242 c243 c244 c245 c246 c247 c248 c249 c250 c251 c252 c253 c254 c255 c256 c257 c258 c259 c260 c261 c262 c263 c264 c265 c266 c267 c268 c269 c273 c274 c275 c276 c277 c278 c279 c280 c281 c282 c283 c284 c285 c286 c287 c288 c289 c290 c291 c292 c293 c294 c295 c296 c297 c298 c299 c300 c301 c302 c303 c304 c305 c306 c307 c308 c309 c310 c311 c312 c313 c314 c315 c316 c317 c318 c319 c320 c321 c322 c323 c324 c325 c326 c327 c328 c329 c330 c331 c332 c333 c334 c335 c336 c337 c338 c339 c340 c341 c342 c343 c344 c345 c346 c347 c348 c349 c350 c351 c352 c353 c354 c355 c356 c357 c358 c359 c360 c361 c362 c363 c364 c365 c366 c367 c368 c369 c370 c371 c372 c373 c374 c375 c376 c377 c378 c379 c380 c381 c382 c383 c384 c385 c386 c387 c388 c389 c390 c391 c392 c393 c394 c395 c396 c397 c398 c399 c400 c401 c402 c403 c404 c405 c406 c407 c408 c409 c410 c411 c412 c413 c414 c415 c416 c417 c418 c419 c420 c421 c422 c423 c424 c425 c426 c427 c428 c429 c430 c431 c432 c433 c434 c435 c436 c437 c438 c439 c440 c441 c442 c443 c444 c445 c446 c447 c448 c449 c450 c451 c452 c453 c454 c455 c456 c457 c458 c459 c460 c461 c462 c463 c464 c465 c466 c467 c468 c469 c470 c471 c472 c473 c474 c475 c476 c477 c478 c479 c480 c481 c482 c483 c484 c485 c486 c487 c488 c489 c490 c491 c492 c493 c494 c495 c496 c497 c498 c499 c500 c501 c502 c503 c504 c505 c506 c507 c508 c509 c510 c511 c512 : Value} (w0 w : World) (B : Nat) (ρ : Lb → Option Rw) (p : Nat) (a : Option Addr) (c : Nat) (acc : List Sp) (vS : Value) (bs : List Hs) (hM : Mm w0 w B ρ) (hal : acc.length ≤ 4096) (hbs : bs.length ≤ 100000) (hp : p ≤ 6)
    (h20 : ρ (20, 0) = some ⟨.slice a acc.length c, 33, 2, acc.length, spc acc⟩) (h32 : ρ (32, 0) = some ⟨vS, 35, 3, bs.length, fl Hs.enc bs⟩) (Q : Exit → Act → World → Prop)
    (hexit : ∀ (u32 u272 u273 u274 u275 u276 u277 u278 u279 u280 u281 u282 u283 : Value) (vS' : Value) (w' : World), Mm w0 w' B (upd (upd ρ (4, 3) none) (32, 0) (some ⟨vS', 35, 3, (bs ++ hsp p acc).length, fl Hs.enc (bs ++ hsp p acc)⟩)) → Q .normal ⟨#[c0, c1, c2, c3, c4, c5, c6, c7, c8, c9, c10, c11, c12, c13, c14, c15, c16, c17, c18, c19, c20, c21, c22, c23, c24, c25, vS', c27, .int .i64 (p : Nat), c29, c30, c31, u32, c33, c34, c35, c36, c37, c38, c39, c40, c41, c42, c43, c44, c45, c46, c47, c48, c49, c50, c51, c52, c53, c54, c55, c56, c57, c58, c59, c60, c61, c62, c63, c64, c65, c66, c67, c68, c69, c70, c71, c72, c73, c74, c75, c76, c77, c78, c79, c80, c81, c82, c83, c84, c85, c86, c87, c88, c89, c90, c91, c92, c93, c94, c95, c96, c97, c98, c99, c100, c101, c102, c103, c104, c105, c106, c107, c108, c109, c110, c111, c112, c113, c114, c115, c116, c117, c118, c119, c120, c121, c122, c123, c124, c125, c126, c127, c128, c129, c130, c131, c132, c133, c134, c135, c136, c137, c138, c139, c140, c141, c142, c143, c144, c145, c146, c147, c148, c149, c150, c151, c152, c153, c154, c155, c156, c157, c158, c159, c160, c161, c162, c163, c164, c165, c166, c167, c168, c169, c170, c171, c172, c173, c174, c175, c176, c177, c178, c179, c180, c181, c182, c183, c184, c185, c186, c187, c188, c189, c190, c191, c192, c193, c194, c195, c196, c197, c198, c199, c200, c201, c202, c203, c204, c205, c206, c207, c208, c209, c210, c211, c212, c213, c214, c215, c216, c217, c218, c219, c220, c221, c222, c223, c224, c225, c226, c227, c228, c229, c230, c231, c232, c233, c234, c235, c236, c237, c238, c239, c240, c241, c242, c243, c244, c245, c246, c247, c248, c249, c250, c251, c252, c253, c254, c255, c256, c257, c258, c259, c260, c261, c262, c263, c264, c265, c266, c267, c268, c269, .slice a (acc.length : Nat) c, .int .i64 (acc.length : Nat), u272, u273, u274, u275, u276, u277, u278, u279, u280, u281, u282, u283, c284, c285, c286, c287, c288, c289, c290, c291, c292, c293, c294, c295, c296, c297, c298, c299, c300, c301, c302, c303, c304, c305, c306, c307, c308, c309, c310, c311, c312, c313, c314, c315, c316, c317, c318, c319, c320, c321, c322, c323, c324, c325, c326, c327, c328, c329, c330, c331, c332, c333, c334, c335, c336, c337, c338, c339, c340, c341, c342, c343, c344, c345, c346, c347, c348, c349, c350, c351, c352, c353, c354, c355, c356, c357, c358, c359, c360, c361, c362, c363, c364, c365, c366, c367, c368, c369, c370, c371, c372, c373, c374, c375, c376, c377, c378, c379, c380, c381, c382, c383, c384, c385, c386, c387, c388, c389, c390, c391, c392, c393, c394, c395, c396, c397, c398, c399, c400, c401, c402, c403, c404, c405, c406, c407, c408, c409, c410, c411, c412, c413, c414, c415, c416, c417, c418, c419, c420, c421, c422, c423, c424, c425, c426, c427, c428, c429, c430, c431, c432, c433, c434, c435, c436, c437, c438, c439, c440, c441, c442, c443, c444, c445, c446, c447, c448, c449, c450, c451, c452, c453, c454, c455, c456, c457, c458, c459, c460, c461, c462, c463, c464, c465, c466, c467, c468, c469, c470, c471, c472, c473, c474, c475, c476, c477, c478, c479, c480, c481, c482, c483, c484, c485, c486, c487, c488, c489, c490, c491, c492, c493, c494, c495, c496, c497, c498, c499, c500, c501, c502, c503, c504, c505, c506, c507, c508, c509, c510, c511, c512], []⟩ w') :
    Code.wp Yba.prog (pick [true, true, true, true, true, true, true, true, true, true, true, true, true, true, true, true, false, true, false, false, true, false, false, true, true, false, true] (Yba.f3.body.getD .skip)) Q ⟨#[c0, c1, c2, c3, c4, c5, c6, c7, c8, c9, c10, c11, c12, c13, c14, c15, c16, c17, c18, c19, c20, c21, c22, c23, c24, c25, vS, c27, .int .i64 (p : Nat), c29, c30, c31, c32, c33, c34, c35, c36, c37, c38, c39, c40, c41, c42, c43, c44, c45, c46, c47, c48, c49, c50, c51, c52, c53, c54, c55, c56, c57, c58, c59, c60, c61, c62, c63, c64, c65, c66, c67, c68, c69, c70, c71, c72, c73, c74, c75, c76, c77, c78, c79, c80, c81, c82, c83, c84, c85, c86, c87, c88, c89, c90, c91, c92, c93, c94, c95, c96, c97, c98, c99, c100, c101, c102, c103, c104, c105, c106, c107, c108, c109, c110, c111, c112, c113, c114, c115, c116, c117, c118, c119, c120, c121, c122, c123, c124, c125, c126, c127, c128, c129, c130, c131, c132, c133, c134, c135, c136, c137, c138, c139, c140, c141, c142, c143, c144, c145, c146, c147, c148, c149, c150, c151, c152, c153, c154, c155, c156, c157, c158, c159, c160, c161, c162, c163, c164, c165, c166, c167, c168, c169, c170, c171, c172, c173, c174, c175, c176, c177, c178, c179, c180, c181, c182, c183, c184, c185, c186, c187, c188, c189, c190, c191, c192, c193, c194, c195, c196, c197, c198, c199, c200, c201, c202, c203, c204, c205, c206, c207, c208, c209, c210, c211, c212, c213, c214, c215, c216, c217, c218, c219, c220, c221, c222, c223, c224, c225, c226, c227, c228, c229, c230, c231, c232, c233, c234, c235, c236, c237, c238, c239, c240, c241, c242, c243, c244, c245, c246, c247, c248, c249, c250, c251, c252, c253, c254, c255, c256, c257, c258, c259, c260, c261, c262, c263, c264, c265, c266, c267, c268, c269, .slice a (acc.length : Nat) c, .int .i64 (acc.length : Nat), .int .i64 0, c273, c274, c275, c276, c277, c278, c279, c280, c281, c282, c283, c284, c285, c286, c287, c288, c289, c290, c291, c292, c293, c294, c295, c296, c297, c298, c299, c300, c301, c302, c303, c304, c305, c306, c307, c308, c309, c310, c311, c312, c313, c314, c315, c316, c317, c318, c319, c320, c321, c322, c323, c324, c325, c326, c327, c328, c329, c330, c331, c332, c333, c334, c335, c336, c337, c338, c339, c340, c341, c342, c343, c344, c345, c346, c347, c348, c349, c350, c351, c352, c353, c354, c355, c356, c357, c358, c359, c360, c361, c362, c363, c364, c365, c366, c367, c368, c369, c370, c371, c372, c373, c374, c375, c376, c377, c378, c379, c380, c381, c382, c383, c384, c385, c386, c387, c388, c389, c390, c391, c392, c393, c394, c395, c396, c397, c398, c399, c400, c401, c402, c403, c404, c405, c406, c407, c408, c409, c410, c411, c412, c413, c414, c415, c416, c417, c418, c419, c420, c421, c422, c423, c424, c425, c426, c427, c428, c429, c430, c431, c432, c433, c434, c435, c436, c437, c438, c439, c440, c441, c442, c443, c444, c445, c446, c447, c448, c449, c450, c451, c452, c453, c454, c455, c456, c457, c458, c459, c460, c461, c462, c463, c464, c465, c466, c467, c468, c469, c470, c471, c472, c473, c474, c475, c476, c477, c478, c479, c480, c481, c482, c483, c484, c485, c486, c487, c488, c489, c490, c491, c492, c493, c494, c495, c496, c497, c498, c499, c500, c501, c502, c503, c504, c505, c506, c507, c508, c509, c510, c511, c512], []⟩ w := by
  have HM : Hid (Mm w0 w B ρ) := hM
  have H20 : Hid (ρ (20, 0) = some ⟨.slice a acc.length c, 33, 2, acc.length, spc acc⟩) := h20
  have H32 : Hid (ρ (32, 0) = some ⟨vS, 35, 3, bs.length, fl Hs.enc bs⟩) := h32
  have HBS : Hid (bs.length ≤ 100000) := hbs
  have HE : Hid (∀ (u32 u272 u273 u274 u275 u276 u277 u278 u279 u280 u281 u282 u283 : Value) (vS' : Value) (w' : World), Mm w0 w' B (upd (upd ρ (4, 3) none) (32, 0) (some ⟨vS', 35, 3, (bs ++ hsp p acc).length, fl Hs.enc (bs ++ hsp p acc)⟩)) → Q .normal ⟨#[c0, c1, c2, c3, c4, c5, c6, c7, c8, c9, c10, c11, c12, c13, c14, c15, c16, c17, c18, c19, c20, c21, c22, c23, c24, c25, vS', c27, .int .i64 (p : Nat), c29, c30, c31, u32, c33, c34, c35, c36, c37, c38, c39, c40, c41, c42, c43, c44, c45, c46, c47, c48, c49, c50, c51, c52, c53, c54, c55, c56, c57, c58, c59, c60, c61, c62, c63, c64, c65, c66, c67, c68, c69, c70, c71, c72, c73, c74, c75, c76, c77, c78, c79, c80, c81, c82, c83, c84, c85, c86, c87, c88, c89, c90, c91, c92, c93, c94, c95, c96, c97, c98, c99, c100, c101, c102, c103, c104, c105, c106, c107, c108, c109, c110, c111, c112, c113, c114, c115, c116, c117, c118, c119, c120, c121, c122, c123, c124, c125, c126, c127, c128, c129, c130, c131, c132, c133, c134, c135, c136, c137, c138, c139, c140, c141, c142, c143, c144, c145, c146, c147, c148, c149, c150, c151, c152, c153, c154, c155, c156, c157, c158, c159, c160, c161, c162, c163, c164, c165, c166, c167, c168, c169, c170, c171, c172, c173, c174, c175, c176, c177, c178, c179, c180, c181, c182, c183, c184, c185, c186, c187, c188, c189, c190, c191, c192, c193, c194, c195, c196, c197, c198, c199, c200, c201, c202, c203, c204, c205, c206, c207, c208, c209, c210, c211, c212, c213, c214, c215, c216, c217, c218, c219, c220, c221, c222, c223, c224, c225, c226, c227, c228, c229, c230, c231, c232, c233, c234, c235, c236, c237, c238, c239, c240, c241, c242, c243, c244, c245, c246, c247, c248, c249, c250, c251, c252, c253, c254, c255, c256, c257, c258, c259, c260, c261, c262, c263, c264, c265, c266, c267, c268, c269, .slice a (acc.length : Nat) c, .int .i64 (acc.length : Nat), u272, u273, u274, u275, u276, u277, u278, u279, u280, u281, u282, u283, c284, c285, c286, c287, c288, c289, c290, c291, c292, c293, c294, c295, c296, c297, c298, c299, c300, c301, c302, c303, c304, c305, c306, c307, c308, c309, c310, c311, c312, c313, c314, c315, c316, c317, c318, c319, c320, c321, c322, c323, c324, c325, c326, c327, c328, c329, c330, c331, c332, c333, c334, c335, c336, c337, c338, c339, c340, c341, c342, c343, c344, c345, c346, c347, c348, c349, c350, c351, c352, c353, c354, c355, c356, c357, c358, c359, c360, c361, c362, c363, c364, c365, c366, c367, c368, c369, c370, c371, c372, c373, c374, c375, c376, c377, c378, c379, c380, c381, c382, c383, c384, c385, c386, c387, c388, c389, c390, c391, c392, c393, c394, c395, c396, c397, c398, c399, c400, c401, c402, c403, c404, c405, c406, c407, c408, c409, c410, c411, c412, c413, c414, c415, c416, c417, c418, c419, c420, c421, c422, c423, c424, c425, c426, c427, c428, c429, c430, c431, c432, c433, c434, c435, c436, c437, c438, c439, c440, c441, c442, c443, c444, c445, c446, c447, c448, c449, c450, c451, c452, c453, c454, c455, c456, c457, c458, c459, c460, c461, c462, c463, c464, c465, c466, c467, c468, c469, c470, c471, c472, c473, c474, c475, c476, c477, c478, c479, c480, c481, c482, c483, c484, c485, c486, c487, c488, c489, c490, c491, c492, c493, c494, c495, c496, c497, c498, c499, c500, c501, c502, c503, c504, c505, c506, c507, c508, c509, c510, c511, c512], []⟩ w') := hexit
  clear hM h20 h32 hexit hbs
  obtain ⟨n, hn⟩ : ∃ n, acc.length = n := ⟨_, rfl⟩
  rw [hn] at hal ⊢
  have HN : Hid (acc.length = n) := hn
  clear hn
  obtain ⟨i0, hi0, hz0, hz1, hz2⟩ := info_parts info35
  conv => arg 2; whnf
  go_wp2_with fail
  go_loopw [26, 272] (fun v26 v272 wr => ∃ (i : Nat), v272 = .int .i64 i ∧ i ≤ n ∧ Hid (Mm w0 wr B (upd (upd ρ (4, 3) none) (32, 0) (some ⟨v26, 35, 3, (bs ++ hsp p (acc.take i)).length, fl Hs.enc (bs ++ hsp p (acc.take i))⟩)))) (fun _ v272 _ => n - (RowKit.intOf v272).toNat)
  case atStart =>
    refine ⟨0, rfl, by omega, ?_⟩
    show Mm _ _ _ _
    have e2 : bs ++ hsp p (acc.take 0) = bs := by simp [hsp]
    rw [e2, upd_self _ (32, 0) _ (by rw [upd_other _ _ (by simp)]; exact H32.out)]
    exact HM.out.drop (4, 3)
  case round =>
    obtain ⟨i, hv272, hi, HW⟩ := hrel
    subst hv272
    by_cases hin : i < n
    · have hin2 : i < acc.length := by rw [HN.out]; exact hin
      have hr : (upd (upd ρ (4, 3) none) (32, 0) (some ⟨u26, 35, 3, (bs ++ hsp p (acc.take i)).length, fl Hs.enc (bs ++ hsp p (acc.take i))⟩)) (20, 0) = some ⟨.slice a acc.length c, 33, 2, acc.length, spc acc⟩ := by rw [upd_other _ _ (by simp), upd_other _ _ (by simp)]; exact H20.out
      have ho := HW.out.mem.own _ _ hr
      obtain ⟨g, cap, hv⟩ := Joins.ownsRow_form ho (by show 0 < acc.length; omega)
      simp only [Value.slice.injEq] at hv
      obtain ⟨ha, _, hc⟩ := hv
      subst ha hc
      rw [HN.out] at hr
      have cc := spc_at acc i hin2
      have k0 := HW.out.cell hr (i * 2) cc.1
      have k1 := HW.out.cell hr (i * 2 + 1) cc.2
      have lg := HW.out.lt hr
      obtain ⟨sf, HSF⟩ : ∃ sf, Hid ((acc[i]'hin2).first = sf) := ⟨_, rfl⟩
      obtain ⟨sl, HSL2⟩ : ∃ sl, Hid ((acc[i]'hin2).last = sl) := ⟨_, rfl⟩
      rw [HSF.out] at k0
      rw [HSL2.out] at k1
      clear cc ho hr
      obtain ⟨d, HD⟩ : ∃ d, Hid (bs ++ hsp p (acc.take i) = d) := ⟨_, rfl⟩
      have LB : d.length ≤ 104096 := by
        have h1 := HBS.out
        have h2 : (hsp p (acc.take i)).length ≤ 4096 := by simp only [hsp, List.length_map, List.length_take]; omega
        rw [← HD.out, List.length_append]; omega
      have HW2 : Hid (Mm w0 wr B (upd (upd ρ (4, 3) none) (32, 0) (some ⟨u26, 35, 3, d.length, fl Hs.enc d⟩))) := by show Mm _ _ _ _; rw [← HD.out]; exact HW.out
      have OW : Hid (wr.ownsRow B 35 3 u26 d.length (fl Hs.enc d)) := HW2.out.mem.own _ _ (upd_same _ _ _)
      have lB := HW2.out.le
      obtain ⟨g6, HG6⟩ : ∃ g6, Hid (wr.heap.size = g6) := ⟨_, rfl⟩
      go_wp2_with (at_builtin; refine wpList_append_lies _ rfl _ _ 36 rfl B 35 i0 _ 3 24 Yba.underlying36 hi0 hz0 hz1 hz2 rfl (by decide) u26 d.length (fl Hs.enc d) rfl ((OW.out.alloc _).alloc _) ⟨wr.heap.size + 1, 0, none⟩ 1 1 [.int .i64 sf, .int .i64 sl, .int .i32 p] rfl rfl ?qn ?q1 (by decide) ?q63 ?qb ?qB (wr.heap.size + 1 + 1) ?qH ?_)
      case qn =>
        have h := World.news_of_block (w := (wr.alloc (.cells #[.int .i64 sf, .int .i64 sl] 33)).alloc (.cells #[.int .i64 sf, .int .i64 sl, .int .i32 p] 35)) (cs := #[.int .i64 sf, .int .i64 sl, .int .i32 p]) (t := 35) (fr := (0, 0)) (heap_alloc_new (wr.alloc (.cells #[.int .i64 sf, .int .i64 sl] 33)) _)
        simpa using h
      case q1 => simp [Value.oneCell']
      case q63 => unfold maxLen; omega
      case qb => omega
      case qB => simp; omega
      case qH => simp
      intro gg cap2 w3 hown hgrow hat hlt
      have M3 : Hid (Mm w0 w3 B (upd (upd (upd ρ (4, 3) none) (32, 0) (some ⟨u26, 35, 3, d.length, fl Hs.enc d⟩)) (32, 0) (some ⟨.slice (some ⟨gg, 0, none⟩) (d.length + 1) cap2, 35, 3, d.length + 1, fl Hs.enc d ++ ([.int .i64 sf, .int .i64 sl, .int .i32 p] : List Value)⟩))) := ((HW2.out.alloc _).alloc _).put (upd_same _ _ _) hgrow hown (fun g hg => by
        cases hg
        rcases hat with h | h
        · exact .inl h
        · right; rw [h]; simp)
      clear hown hgrow hat hlt
      go_wp2_with fail
      go_roundw
      case rel =>
        refine ⟨i + 1, by go_num, by omega, ?_⟩
        show Mm _ _ _ _
        have h := M3.out
        have hd2 : bs ++ hsp p (acc.take (i + 1)) = d ++ [⟨sf, sl, p⟩] := by
          rw [hsp_take p acc i hin2, HSF.out, HSL2.out, ← List.append_assoc, HD.out]
        rw [upd_upd] at h
        rw [hd2, fl_append, fl_one, List.length_append]
        exact h
      case measure => simp [RowKit.intOf]; omega
    · go_wp2_with fail
      obtain rfl : i = n := by omega
      have hw := HW.out
      rw [← HN.out, List.take_length] at hw
      have he := HE.out
      rw [HN.out] at he
      exact he _ _ _ _ _ _ _ _ _ _ _ _ _ u26 _ hw

end Go.Proofs.Ybulkebla

