import Derived.Test.YbulkeblaAK5
/-! The law: a peer's runs by section, and all runs by section. -/
namespace Go.Proofs.Ybulkebla
open Go.RowKit Go.Lib
set_option linter.unusedVariables false
set_option linter.unusedSectionVars false
variable [Inhabited Rn] [Inhabited Hs] [Inhabited Sc]
set_option linter.unusedSimpArgs false

def stG (ρ : Lb → Option Rw) (pb bb S : Nat) (vp vq : Nat → Value) (prow brow : Nat → List Rn) : Lb → Option Rw := fun l =>
  if l.1 = 34 then if l.2 < S then some ⟨vp l.2, 29, 4, (prow l.2).length, fl Rn.enc (prow l.2)⟩ else none
  else if l.1 = 36 then if l.2 < S then some ⟨vq l.2, 29, 4, (brow l.2).length, fl Rn.enc (brow l.2)⟩ else none
  else if l = (33, 0) then some (bk pb 30 1 S S (vals S vp))
  else if l = (35, 0) then some (bk bb 30 1 S S (vals S vq))
  else if l = (4, 4) then none
  else ρ l
theorem stG_other {ρ : Lb → Option Rw} {pb bb S : Nat} {vp vq : Nat → Value} {prow brow : Nat → List Rn} {l : Lb} (h1 : l.1 ≠ 34) (h2 : l.1 ≠ 36) (h3 : l ≠ (33, 0)) (h4 : l ≠ (35, 0)) (h5 : l ≠ (4, 4)) : stG ρ pb bb S vp vq prow brow l = ρ l := by
  simp [stG, h1, h2, h3, h4, h5]
theorem stG_step (ρ : Lb → Option Rw) (pb bb S : Nat) (vp vq : Nat → Value) (prow prow' brow brow' : Nat → List Rn) (k : Nat) (r : Rn) (v1 v2 : Value) (y : Option Rw) (hk : k < S) (hp : ∀ j, prow' j = if j = k then prow j ++ [r] else prow j) (hb : ∀ j, brow' j = if j = k then brow j ++ [r] else brow j) :
    upd (upd (upd (upd (upd (upd (stG ρ pb bb S vp vq prow brow) (4, 4) y) (36, k) (some ⟨v1, 29, 4, (brow k).length + 1, fl Rn.enc (brow k) ++ Rn.enc r⟩)) (35, 0) (some (bk bb 30 1 S S ((vals S vq).set k v1))))
      (34, k) (some ⟨v2, 29, 4, (prow k).length + 1, fl Rn.enc (prow k) ++ Rn.enc r⟩)) (33, 0) (some (bk pb 30 1 S S ((vals S vp).set k v2)))) (4, 4) none = stG ρ pb bb S (fun j => if j = k then v2 else vp j) (fun j => if j = k then v1 else vq j) prow' brow' := by
  obtain rfl : prow' = fun j => if j = k then prow j ++ [r] else prow j := funext hp
  obtain rfl : brow' = fun j => if j = k then brow j ++ [r] else brow j := funext hb
  rw [vals_set S vp k v2 hk, vals_set S vq k v1 hk]
  funext l
  obtain ⟨a, b⟩ := l
  simp only [upd, stG, Prod.mk.injEq]
  by_cases h0 : a = 34
  · subst h0
    by_cases hb : b = k
    · subst hb; simp [hk, fl_append, fl_one]
    · simp [hb]
  by_cases h2 : a = 36
  · subst h2
    by_cases hb : b = k
    · subst hb; simp [hk, fl_append, fl_one]
    · simp [hb]
  by_cases h1 : a = 33 ∧ b = 0
  · obtain ⟨rfl, rfl⟩ := h1; simp
  by_cases h3 : a = 35 ∧ b = 0
  · obtain ⟨rfl, rfl⟩ := h3; simp
  by_cases h4 : a = 4 ∧ b = 4
  · obtain ⟨rfl, rfl⟩ := h4; simp
  simp [h0, h1, h2, h3, h4]

set_option maxHeartbeats 4000000 in
set_option maxRecDepth 100000 in
theorem group {c0 c1 c2 c3 c4 c5 c6 c7 c8 c9 c10 c11 c12 c13 c14 c15 c16 c17 c18 c19 c20 c21 c22 c23 c24 c25 c26 c28 c29 c30 c31 c32 c34 c35 c36 c37 c38 c39 c40 c41 c42 c43 c44 c45 c46 c47 c48 c49 c50 c51 c52 c53 c54 c55 c56 c57 c58 c59 c60 c61 c62 c63 c64 c65 c66 c67 c68 c69 c70 c71 c72 c73 c74 c75 c76 c77 c78 c79 c80 c81 c82 c83 c84 c85 c86 c87 c88 c89 c90 c91 c92 c93 c94 c95 c96 c97 c98 c99 c100 c101 c102 c103 c104 c105 c106 c107 c108 c109 c110 c111 c112 c113 c114 c115 c116 c117 c118 c119 c120 c121 c122 c123 c124 c125 c126 c127 c128 c129 c130 c131 c132 c133 c134 c135 c136 c137 c138 c139 c140 c141 c142 c143 c144 c145 c146 c147 c148 c149 c150 c151 c152 c153 c154 c155 c156 c157 c158 c159 c160 c161 c162 c163 c164 c165 c166 c167 c168 c169 c170 c171 c172 c173 c174 c175 c176 c177 c178 c179 c180 c181 c182 c183 c184 c185 c186 c187 c188 c189 c190 c191 c192 c193 c194 c195 c196 c197 c198 c199 c200 c201 c202 c203 c204 c205 c206 c207 c208 c209 c210 c211 c212 c213 c214 c215 c216 c217 c218 c219 c220 c221 c222 c223 c224 c225 c226 c227 c228 c229 c230 c231 c232 c233 c234 c235 c236 c237 c238 c239 c240 c241 c242 c243 c244 c245 c246 c247 c248 c249 c250 c251 c252 c253 c254 c255 c256 c257 c258 c259 c260 c261 c262 c263 c264 c265 c266 c267 c268 c269 c270 c271 c272 c273 c274 c275 c276 c277 c278 c279 c280 c281 c282 c283 c284 c285 c286 c287 c288 c292 c293 c294 c295 c296 c297 c298 c299 c300 c301 c302 c303 c304 c305 c306 c307 c308 c309 c310 c311 c312 c313 c314 c315 c316 c317 c318 c319 c320 c321 c322 c323 c324 c325 c326 c327 c328 c329 c330 c331 c332 c333 c334 c335 c336 c337 c338 c339 c340 c341 c342 c343 c344 c345 c346 c347 c348 c349 c350 c351 c352 c353 c354 c355 c356 c357 c358 c359 c360 c361 c362 c363 c364 c365 c366 c367 c368 c369 c370 c371 c372 c373 c374 c375 c376 c377 c378 c379 c380 c381 c382 c383 c384 c385 c386 c387 c388 c389 c390 c391 c392 c393 c394 c395 c396 c397 c398 c399 c400 c401 c402 c403 c404 c405 c406 c407 c408 c409 c410 c411 c412 c413 c414 c415 c416 c417 c418 c419 c420 c421 c422 c423 c424 c425 c426 c427 c428 c429 c430 c431 c432 c433 c434 c435 c436 c437 c438 c439 c440 c441 c442 c443 c444 c445 c446 c447 c448 c449 c450 c451 c452 c453 c454 c455 c456 c457 c458 c459 c460 c461 c462 c463 c464 c465 c466 c467 c468 c469 c470 c471 c472 c473 c474 c475 c476 c477 c478 c479 c480 c481 c482 c483 c484 c485 c486 c487 c488 c489 c490 c491 c492 c493 c494 c495 c496 c497 c498 c499 c500 c501 c502 c503 c504 c505 c506 c507 c508 c509 c510 c511 c512 : Value} (w0 w : World) (B : Nat) (ρ : Lb → Option Rw) (pb bb S p : Nat) (a : Option Addr) (c : Nat) (d : List Rn) (vp vq : Nat → Value) (prow : Nat → List Rn) (hM : Mm w0 w B (stG ρ pb bb S vp vq prow (fun _ => []))) (hd : d.length ≤ 4096) (hS : S ≤ 6) (hpr : ∀ j, (prow j).length ≤ 100000)
    (hF : ∀ r ∈ d, ∃ k : Nat, k < S ∧ r.id = k) (h2 : ρ (2, p) = some ⟨.slice a d.length c, 29, 4, d.length, fl Rn.enc d⟩) (Q : Exit → Act → World → Prop)
    (hexit : ∀ (u35 u291 u292 u293 u294 u295 u296 u297 u298 u299 u300 u301 u302 u303 u304 u305 u306 u307 u308 u309 u310 u311 u312 u313 u314 u315 u316 u317 u318 u319 : Value) (vp' vq' : Nat → Value) (w' : World), Mm w0 w' B (stG ρ pb bb S vp' vq' (fun j => prow j ++ sel j d) (fun j => sel j d)) → Q .normal ⟨#[c0, c1, c2, c3, c4, c5, c6, c7, c8, c9, c10, c11, c12, c13, c14, c15, c16, c17, c18, c19, c20, c21, c22, c23, c24, c25, c26, .slice (some ⟨pb, 0, none⟩) S S, c28, c29, c30, c31, c32, .slice (some ⟨bb, 0, none⟩) S S, c34, u35, c36, c37, c38, c39, c40, c41, c42, c43, c44, c45, c46, c47, c48, c49, c50, c51, c52, c53, c54, c55, c56, c57, c58, c59, c60, c61, c62, c63, c64, c65, c66, c67, c68, c69, c70, c71, c72, c73, c74, c75, c76, c77, c78, c79, c80, c81, c82, c83, c84, c85, c86, c87, c88, c89, c90, c91, c92, c93, c94, c95, c96, c97, c98, c99, c100, c101, c102, c103, c104, c105, c106, c107, c108, c109, c110, c111, c112, c113, c114, c115, c116, c117, c118, c119, c120, c121, c122, c123, c124, c125, c126, c127, c128, c129, c130, c131, c132, c133, c134, c135, c136, c137, c138, c139, c140, c141, c142, c143, c144, c145, c146, c147, c148, c149, c150, c151, c152, c153, c154, c155, c156, c157, c158, c159, c160, c161, c162, c163, c164, c165, c166, c167, c168, c169, c170, c171, c172, c173, c174, c175, c176, c177, c178, c179, c180, c181, c182, c183, c184, c185, c186, c187, c188, c189, c190, c191, c192, c193, c194, c195, c196, c197, c198, c199, c200, c201, c202, c203, c204, c205, c206, c207, c208, c209, c210, c211, c212, c213, c214, c215, c216, c217, c218, c219, c220, c221, c222, c223, c224, c225, c226, c227, c228, c229, c230, c231, c232, c233, c234, c235, c236, c237, c238, c239, c240, c241, c242, c243, c244, c245, c246, c247, c248, c249, c250, c251, c252, c253, c254, c255, c256, c257, c258, c259, c260, c261, c262, c263, c264, c265, c266, c267, c268, c269, c270, c271, c272, c273, c274, c275, c276, c277, c278, c279, c280, c281, c282, c283, c284, c285, c286, c287, c288, .slice a (d.length : Nat) c, .int .i64 (d.length : Nat), u291, u292, u293, u294, u295, u296, u297, u298, u299, u300, u301, u302, u303, u304, u305, u306, u307, u308, u309, u310, u311, u312, u313, u314, u315, u316, u317, u318, u319, c320, c321, c322, c323, c324, c325, c326, c327, c328, c329, c330, c331, c332, c333, c334, c335, c336, c337, c338, c339, c340, c341, c342, c343, c344, c345, c346, c347, c348, c349, c350, c351, c352, c353, c354, c355, c356, c357, c358, c359, c360, c361, c362, c363, c364, c365, c366, c367, c368, c369, c370, c371, c372, c373, c374, c375, c376, c377, c378, c379, c380, c381, c382, c383, c384, c385, c386, c387, c388, c389, c390, c391, c392, c393, c394, c395, c396, c397, c398, c399, c400, c401, c402, c403, c404, c405, c406, c407, c408, c409, c410, c411, c412, c413, c414, c415, c416, c417, c418, c419, c420, c421, c422, c423, c424, c425, c426, c427, c428, c429, c430, c431, c432, c433, c434, c435, c436, c437, c438, c439, c440, c441, c442, c443, c444, c445, c446, c447, c448, c449, c450, c451, c452, c453, c454, c455, c456, c457, c458, c459, c460, c461, c462, c463, c464, c465, c466, c467, c468, c469, c470, c471, c472, c473, c474, c475, c476, c477, c478, c479, c480, c481, c482, c483, c484, c485, c486, c487, c488, c489, c490, c491, c492, c493, c494, c495, c496, c497, c498, c499, c500, c501, c502, c503, c504, c505, c506, c507, c508, c509, c510, c511, c512], []⟩ w') :
    Code.wp Yba.prog (pick [true, true, true, true, true, true, true, true, true, true, true, true, true, true, true, true, false, true, false, false, true, false, false, true, true, true, true, false, true] (Yba.f3.body.getD .skip)) Q ⟨#[c0, c1, c2, c3, c4, c5, c6, c7, c8, c9, c10, c11, c12, c13, c14, c15, c16, c17, c18, c19, c20, c21, c22, c23, c24, c25, c26, .slice (some ⟨pb, 0, none⟩) S S, c28, c29, c30, c31, c32, .slice (some ⟨bb, 0, none⟩) S S, c34, c35, c36, c37, c38, c39, c40, c41, c42, c43, c44, c45, c46, c47, c48, c49, c50, c51, c52, c53, c54, c55, c56, c57, c58, c59, c60, c61, c62, c63, c64, c65, c66, c67, c68, c69, c70, c71, c72, c73, c74, c75, c76, c77, c78, c79, c80, c81, c82, c83, c84, c85, c86, c87, c88, c89, c90, c91, c92, c93, c94, c95, c96, c97, c98, c99, c100, c101, c102, c103, c104, c105, c106, c107, c108, c109, c110, c111, c112, c113, c114, c115, c116, c117, c118, c119, c120, c121, c122, c123, c124, c125, c126, c127, c128, c129, c130, c131, c132, c133, c134, c135, c136, c137, c138, c139, c140, c141, c142, c143, c144, c145, c146, c147, c148, c149, c150, c151, c152, c153, c154, c155, c156, c157, c158, c159, c160, c161, c162, c163, c164, c165, c166, c167, c168, c169, c170, c171, c172, c173, c174, c175, c176, c177, c178, c179, c180, c181, c182, c183, c184, c185, c186, c187, c188, c189, c190, c191, c192, c193, c194, c195, c196, c197, c198, c199, c200, c201, c202, c203, c204, c205, c206, c207, c208, c209, c210, c211, c212, c213, c214, c215, c216, c217, c218, c219, c220, c221, c222, c223, c224, c225, c226, c227, c228, c229, c230, c231, c232, c233, c234, c235, c236, c237, c238, c239, c240, c241, c242, c243, c244, c245, c246, c247, c248, c249, c250, c251, c252, c253, c254, c255, c256, c257, c258, c259, c260, c261, c262, c263, c264, c265, c266, c267, c268, c269, c270, c271, c272, c273, c274, c275, c276, c277, c278, c279, c280, c281, c282, c283, c284, c285, c286, c287, c288, .slice a (d.length : Nat) c, .int .i64 (d.length : Nat), .int .i64 0, c292, c293, c294, c295, c296, c297, c298, c299, c300, c301, c302, c303, c304, c305, c306, c307, c308, c309, c310, c311, c312, c313, c314, c315, c316, c317, c318, c319, c320, c321, c322, c323, c324, c325, c326, c327, c328, c329, c330, c331, c332, c333, c334, c335, c336, c337, c338, c339, c340, c341, c342, c343, c344, c345, c346, c347, c348, c349, c350, c351, c352, c353, c354, c355, c356, c357, c358, c359, c360, c361, c362, c363, c364, c365, c366, c367, c368, c369, c370, c371, c372, c373, c374, c375, c376, c377, c378, c379, c380, c381, c382, c383, c384, c385, c386, c387, c388, c389, c390, c391, c392, c393, c394, c395, c396, c397, c398, c399, c400, c401, c402, c403, c404, c405, c406, c407, c408, c409, c410, c411, c412, c413, c414, c415, c416, c417, c418, c419, c420, c421, c422, c423, c424, c425, c426, c427, c428, c429, c430, c431, c432, c433, c434, c435, c436, c437, c438, c439, c440, c441, c442, c443, c444, c445, c446, c447, c448, c449, c450, c451, c452, c453, c454, c455, c456, c457, c458, c459, c460, c461, c462, c463, c464, c465, c466, c467, c468, c469, c470, c471, c472, c473, c474, c475, c476, c477, c478, c479, c480, c481, c482, c483, c484, c485, c486, c487, c488, c489, c490, c491, c492, c493, c494, c495, c496, c497, c498, c499, c500, c501, c502, c503, c504, c505, c506, c507, c508, c509, c510, c511, c512], []⟩ w := by
  have HM : Hid (Mm w0 w B (stG ρ pb bb S vp vq prow (fun _ => []))) := hM
  have H2 : Hid (ρ (2, p) = some ⟨.slice a d.length c, 29, 4, d.length, fl Rn.enc d⟩) := h2
  have HPR : Hid (∀ j, (prow j).length ≤ 100000) := hpr
  have HID : Hid (∀ r ∈ d, ∃ k : Nat, k < S ∧ r.id = k) := hF
  have HE : Hid (∀ (u35 u291 u292 u293 u294 u295 u296 u297 u298 u299 u300 u301 u302 u303 u304 u305 u306 u307 u308 u309 u310 u311 u312 u313 u314 u315 u316 u317 u318 u319 : Value) (vp' vq' : Nat → Value) (w' : World), Mm w0 w' B (stG ρ pb bb S vp' vq' (fun j => prow j ++ sel j d) (fun j => sel j d)) → Q .normal ⟨#[c0, c1, c2, c3, c4, c5, c6, c7, c8, c9, c10, c11, c12, c13, c14, c15, c16, c17, c18, c19, c20, c21, c22, c23, c24, c25, c26, .slice (some ⟨pb, 0, none⟩) S S, c28, c29, c30, c31, c32, .slice (some ⟨bb, 0, none⟩) S S, c34, u35, c36, c37, c38, c39, c40, c41, c42, c43, c44, c45, c46, c47, c48, c49, c50, c51, c52, c53, c54, c55, c56, c57, c58, c59, c60, c61, c62, c63, c64, c65, c66, c67, c68, c69, c70, c71, c72, c73, c74, c75, c76, c77, c78, c79, c80, c81, c82, c83, c84, c85, c86, c87, c88, c89, c90, c91, c92, c93, c94, c95, c96, c97, c98, c99, c100, c101, c102, c103, c104, c105, c106, c107, c108, c109, c110, c111, c112, c113, c114, c115, c116, c117, c118, c119, c120, c121, c122, c123, c124, c125, c126, c127, c128, c129, c130, c131, c132, c133, c134, c135, c136, c137, c138, c139, c140, c141, c142, c143, c144, c145, c146, c147, c148, c149, c150, c151, c152, c153, c154, c155, c156, c157, c158, c159, c160, c161, c162, c163, c164, c165, c166, c167, c168, c169, c170, c171, c172, c173, c174, c175, c176, c177, c178, c179, c180, c181, c182, c183, c184, c185, c186, c187, c188, c189, c190, c191, c192, c193, c194, c195, c196, c197, c198, c199, c200, c201, c202, c203, c204, c205, c206, c207, c208, c209, c210, c211, c212, c213, c214, c215, c216, c217, c218, c219, c220, c221, c222, c223, c224, c225, c226, c227, c228, c229, c230, c231, c232, c233, c234, c235, c236, c237, c238, c239, c240, c241, c242, c243, c244, c245, c246, c247, c248, c249, c250, c251, c252, c253, c254, c255, c256, c257, c258, c259, c260, c261, c262, c263, c264, c265, c266, c267, c268, c269, c270, c271, c272, c273, c274, c275, c276, c277, c278, c279, c280, c281, c282, c283, c284, c285, c286, c287, c288, .slice a (d.length : Nat) c, .int .i64 (d.length : Nat), u291, u292, u293, u294, u295, u296, u297, u298, u299, u300, u301, u302, u303, u304, u305, u306, u307, u308, u309, u310, u311, u312, u313, u314, u315, u316, u317, u318, u319, c320, c321, c322, c323, c324, c325, c326, c327, c328, c329, c330, c331, c332, c333, c334, c335, c336, c337, c338, c339, c340, c341, c342, c343, c344, c345, c346, c347, c348, c349, c350, c351, c352, c353, c354, c355, c356, c357, c358, c359, c360, c361, c362, c363, c364, c365, c366, c367, c368, c369, c370, c371, c372, c373, c374, c375, c376, c377, c378, c379, c380, c381, c382, c383, c384, c385, c386, c387, c388, c389, c390, c391, c392, c393, c394, c395, c396, c397, c398, c399, c400, c401, c402, c403, c404, c405, c406, c407, c408, c409, c410, c411, c412, c413, c414, c415, c416, c417, c418, c419, c420, c421, c422, c423, c424, c425, c426, c427, c428, c429, c430, c431, c432, c433, c434, c435, c436, c437, c438, c439, c440, c441, c442, c443, c444, c445, c446, c447, c448, c449, c450, c451, c452, c453, c454, c455, c456, c457, c458, c459, c460, c461, c462, c463, c464, c465, c466, c467, c468, c469, c470, c471, c472, c473, c474, c475, c476, c477, c478, c479, c480, c481, c482, c483, c484, c485, c486, c487, c488, c489, c490, c491, c492, c493, c494, c495, c496, c497, c498, c499, c500, c501, c502, c503, c504, c505, c506, c507, c508, c509, c510, c511, c512], []⟩ w') := hexit
  clear hM h2 hexit hpr hF
  obtain ⟨n, hn⟩ : ∃ n, d.length = n := ⟨_, rfl⟩
  rw [hn] at hd ⊢
  have HN : Hid (d.length = n) := hn
  clear hn
  obtain ⟨i0, hi0, hz0, hz1, hz2⟩ := info_parts info29'
  conv => arg 2; whnf
  go_wp2_with fail
  go_loopw [291] (fun v291 wr => ∃ (i : Nat) (vp1 vq1 : Nat → Value), v291 = .int .i64 i ∧ i ≤ n ∧ Hid (Mm w0 wr B (stG ρ pb bb S vp1 vq1 (fun j => prow j ++ sel j (d.take i)) (fun j => sel j (d.take i))))) (fun v291 _ => n - (RowKit.intOf v291).toNat)
  case atStart =>
    refine ⟨0, vp, vq, rfl, by omega, ?_⟩
    show Mm _ _ _ _
    have h := HM.out
    simp only [List.take_zero, sel, List.filter_nil, List.append_nil] at h ⊢
    exact h
  case round =>
    obtain ⟨i, vp1, vq1, rfl, hi, HW⟩ := hrel
    by_cases hin : i < n
    · have hin2 : i < d.length := by rw [HN.out]; exact hin
      have hr : (stG ρ pb bb S vp1 vq1 (fun j => prow j ++ sel j (d.take i)) (fun j => sel j (d.take i))) (2, p) = some ⟨.slice a d.length c, 29, 4, d.length, fl Rn.enc d⟩ := (stG_other (by simp) (by simp) (by simp) (by simp) (by simp)).trans H2.out
      have ho := HW.out.mem.own _ _ hr
      obtain ⟨g, cap, hv⟩ := Joins.ownsRow_form ho (by show 0 < d.length; omega)
      simp only [Value.slice.injEq] at hv
      obtain ⟨ha, _, hc⟩ := hv
      subst ha hc
      rw [HN.out] at hr
      obtain ⟨r, HR⟩ : ∃ r, Hid (d.getD i default = r) := ⟨_, rfl⟩
      have hmem : r ∈ d := by
        rw [← HR.out, List.getD_eq_getElem?_getD, List.getElem?_eq_getElem hin2]; exact List.getElem_mem _
      obtain ⟨k, hkS, hrid⟩ := HID.out r hmem
      have HK : Hid (r.id = (k : Int)) := hrid
      clear hrid
      have hlen : ∀ x : Rn, (Rn.enc x).length = 4 := fun _ => rfl
      have cc0 := fl_at Rn.enc 4 hlen d i 0 hin2 (by omega)
      have cc1 := fl_at Rn.enc 4 hlen d i 1 hin2 (by omega)
      have cc2 := fl_at Rn.enc 4 hlen d i 2 hin2 (by omega)
      have cc3 := fl_at Rn.enc 4 hlen d i 3 hin2 (by omega)
      rw [HR.out] at cc0 cc1 cc2 cc3
      have k0 : wr.cell? ⟨g, i * 4, none⟩ = some (.string (nm k)) := HW.out.cell hr (i * 4) (by rw [Nat.add_zero] at cc0; rw [cc0]; simp [Rn.enc, HK.out])
      have k1 : wr.cell? ⟨g, i * 4 + 1, none⟩ = some (.int .i64 k) := HW.out.cell hr (i * 4 + 1) (by rw [cc1]; simp [Rn.enc, HK.out])
      have k2 : wr.cell? ⟨g, i * 4 + 2, none⟩ = some (.int .i64 r.first) := HW.out.cell hr (i * 4 + 2) (by rw [cc2]; simp [Rn.enc])
      have k3 : wr.cell? ⟨g, i * 4 + 3, none⟩ = some (.int .i64 r.count) := HW.out.cell hr (i * 4 + 3) (by rw [cc3]; simp [Rn.enc])
      have lg := HW.out.lt hr
      clear cc0 cc1 cc2 cc3 ho hlen hr
      obtain ⟨rf, HRF⟩ : ∃ rf, Hid (r.first = rf) := ⟨_, rfl⟩
      obtain ⟨rc, HRC⟩ : ∃ rc, Hid (r.count = rc) := ⟨_, rfl⟩
      rw [HRF.out] at k2
      rw [HRC.out] at k3
      have HENC : Hid (Rn.enc r = [.string (nm k), .int .i64 k, .int .i64 rf, .int .i64 rc]) := by
        show Rn.enc r = _
        rw [← HK.out, ← HRF.out, ← HRC.out]; rfl
      go_wp2_with fail
      obtain ⟨g9, HG9⟩ : ∃ g9, Hid (wr.heap.size = g9) := ⟨_, rfl⟩
      rw [HG9.out]
      have M1' : Hid (Mm w0 (wr.alloc (.cells #[.string (nm k), .int .i64 k, .int .i64 rf, .int .i64 rc] 29)) B (upd (stG ρ pb bb S vp1 vq1 (fun j => prow j ++ sel j (d.take i)) (fun j => sel j (d.take i))) (4, 4) (some (bk g9 29 4 1 1 [.string (nm k), .int .i64 k, .int .i64 rf, .int .i64 rc])))) := HW.out.box (4, 4) #[.string (nm k), .int .i64 k, .int .i64 rf, .int .i64 rc] 29 4 1 (by decide) rfl HG9.out
      generalize wr.alloc (.cells #[.string (nm k), .int .i64 k, .int .i64 rf, .int .i64 rc] 29) = w1 at M1' ⊢
      clear k0 k1 k2 k3 lg
      obtain ⟨ρ1, HR1⟩ : ∃ ρ1, Hid (upd (stG ρ pb bb S vp1 vq1 (fun j => prow j ++ sel j (d.take i)) (fun j => sel j (d.take i))) (4, 4) (some (bk g9 29 4 1 1 [.string (nm k), .int .i64 k, .int .i64 rf, .int .i64 rc])) = ρ1) := ⟨_, rfl⟩
      have M1 : Hid (Mm w0 w1 B ρ1) := by show Mm _ _ _ _; rw [← HR1.out]; exact M1'.out
      obtain ⟨e1, HE1⟩ : ∃ e1, Hid (sel k (d.take i) = e1) := ⟨_, rfl⟩
      obtain ⟨e2, HE2⟩ : ∃ e2, Hid (prow k ++ e1 = e2) := ⟨_, rfl⟩
      have le1 : e1.length ≤ 4096 := by rw [← HE1.out]; have h1 := sel_len k (d.take i); rw [List.length_take] at h1; omega
      have le2 : e2.length ≤ 104096 := by rw [← HE2.out, List.length_append]; have := HPR.out k; omega
      have B41 : Hid (ρ1 (4, 4) = some (bk g9 29 4 1 1 [.string (nm k), .int .i64 k, .int .i64 rf, .int .i64 rc])) := by show _ = _; rw [← HR1.out, upd_same]
      have BO1 : Hid (ρ1 (35, 0) = some (bk bb 30 1 S S (vals S vq1))) := by show _ = _; rw [← HR1.out]; simp [upd, stG]
      have BR1 : Hid (ρ1 (36, k) = some ⟨vq1 k, 29, 4, e1.length, fl Rn.enc e1⟩) := by show _ = _; rw [← HR1.out, ← HE1.out]; simp [upd, stG, hkS]
      have BO0 : Hid (ρ1 (33, 0) = some (bk pb 30 1 S S (vals S vp1))) := by show _ = _; rw [← HR1.out]; simp [upd, stG]
      have BR0 : Hid (ρ1 (34, k) = some ⟨vp1 k, 29, 4, e2.length, fl Rn.enc e2⟩) := by show _ = _; rw [← HR1.out, ← HE2.out, ← HE1.out]; simp [upd, stG, hkS]
      have hp1 : (0 : Int) ≤ (k : Int) := Int.natCast_nonneg _
      have hp2 : (k : Int) < (S : Int) := by omega
      have HSS1 : Hid (∀ (w' : World) (ρ' : Lb → Option Rw), Mm w0 w' B ρ' → ρ' (4, 4) = ρ1 (4, 4) → ρ' (35, 0) = ρ1 (35, 0) → w'.cell? ⟨g9, 0, none⟩ = some (.string (nm k)) ∧ w'.cell? ⟨g9, 1, none⟩ = some (.int .i64 k) ∧ w'.cell? ⟨g9, 2, none⟩ = some (.int .i64 rf) ∧ w'.cell? ⟨g9, 3, none⟩ = some (.int .i64 rc) ∧ w'.cell? ⟨bb, k, none⟩ = some (vq1 k)) := fun w' ρ' h e4 e9 =>
        ⟨h.cell (e4.trans B41.out) 0 rfl, h.cell (e4.trans B41.out) 1 rfl, h.cell (e4.trans B41.out) 2 rfl, h.cell (e4.trans B41.out) 3 rfl, h.cell (e9.trans BO1.out) k (vals_at S vq1 k hkS)⟩
      have OW1 : Hid (w1.ownsRow B 29 4 (vq1 k) e1.length (fl Rn.enc e1)) := M1.out.mem.own _ _ BR1.out
      have lB1 := M1.out.le
      refine wp_region_late 9 11 (fun w' => w'.cell? ⟨g9, 0, none⟩ = some (.string (nm k)) ∧ w'.cell? ⟨g9, 1, none⟩ = some (.int .i64 k) ∧ w'.cell? ⟨g9, 2, none⟩ = some (.int .i64 rf) ∧ w'.cell? ⟨g9, 3, none⟩ = some (.int .i64 rc) ∧ w'.cell? ⟨bb, k, none⟩ = some (vq1 k)) (by kernel_rfl) (by kernel_rfl) (HSS1.out w1.drew ρ1 M1.out.drew rfl rfl) ?_
      simp only [List.take_succ_cons, List.take_zero, List.drop_succ_cons, List.drop_zero, Nat.reduceSub]
      repeat (refine wpHead_step (v := ?_) (by rfl) (by intro w hSw; go_simp; try with_reducible rfl) ?_; try simp only [Act.put, List.setIfInBounds_toArray, List.set_cons_zero, List.set_cons_succ])
      refine wpHead_nil ?_
      change wpList _ _ _ _ _ w1.drew
      go_wp2_with fail
      have Ma1 : Hid (Mm w0 (w1.alloc (.cells #[.string (nm k), .int .i64 k, .int .i64 rf, .int .i64 rc] 29)).drew B ρ1) := (M1.out.alloc _).drew
      refine ⟨HSS1.out _ _ Ma1.out rfl rfl, ?_⟩
      have OX1 : Hid ((w1.alloc (.cells #[.string (nm k), .int .i64 k, .int .i64 rf, .int .i64 rc] 29)).drew.ownsRow B 29 4 (vq1 k) e1.length (fl Rn.enc e1)) := (OW1.out.alloc _).drew
      change wpList _ _ _ _ _ _
      go_wp2_with (at_builtin; refine wpList_append_lies _ rfl _ _ 30 rfl B 29 i0 _ 4 40 Yba.underlying30 hi0 hz0 hz1 hz2 rfl (by decide) (vq1 k) e1.length (fl Rn.enc e1) rfl OX1.out ⟨w1.heap.size, 0, none⟩ 1 1 [.string (nm k), .int .i64 k, .int .i64 rf, .int .i64 rc] rfl rfl ?qn ?q1 (by decide) ?q63 ?qb ?qB (w1.heap.size + 1) ?qH ?_)
      case qn => exact World.news_of_block (cs := #[.string (nm k), .int .i64 k, .int .i64 rf, .int .i64 rc]) (t := 29) (fr := (0, 0)) (heap_alloc_new w1 _)
      case q1 => simp [Value.oneCell']
      case q63 => unfold maxLen; omega
      case qb => omega
      case qB => simp; omega
      case qH => simp
      intro gg1 cap1 w20 hown hgrow hat hlt
      have Mb1 : Hid (Mm w0 w20 B (upd ρ1 (36, k) (some ⟨.slice (some ⟨gg1, 0, none⟩) (e1.length + 1) cap1, 29, 4, e1.length + 1, fl Rn.enc e1 ++ ([.string (nm k), .int .i64 k, .int .i64 rf, .int .i64 rc] : List Value)⟩))) := Ma1.out.put BR1.out hgrow hown (fun g hg => by
        cases hg
        rcases hat with h | h
        · exact .inl h
        · right; rw [h]; simp)
      clear hown hgrow hat hlt
      go_wp2_with fail
      refine ⟨HSS1.out _ _ Mb1.out (upd_other _ _ (by simp)) (upd_other _ _ (by simp)), ?_⟩
      change wpList _ _ _ _ _ _
      have z9 : upd ρ1 (36, k) (some ⟨.slice (some ⟨gg1, 0, none⟩) (e1.length + 1) cap1, 29, 4, e1.length + 1, fl Rn.enc e1 ++ ([.string (nm k), .int .i64 k, .int .i64 rf, .int .i64 rc] : List Value)⟩) (35, 0) = _ := (upd_other _ _ (by simp)).trans BO1.out
      have z1 := Mb1.out.cell z9 k (vals_at S vq1 k hkS)
      have z2 := Mb1.out.froz z9 k
      have z3 := Mb1.out.lt z9
      have Z1 : Hid _ := z9
      clear z9
      go_wp2_with fail
      refine NoPanic.normal ?_
      have Mc1 : Hid (Mm w0 (w20.setCell ⟨bb, k, none⟩ (.slice (some ⟨gg1, 0, none⟩) (e1.length + 1) cap1)) B (upd (upd ρ1 (36, k) (some ⟨.slice (some ⟨gg1, 0, none⟩) (e1.length + 1) cap1, 29, 4, e1.length + 1, fl Rn.enc e1 ++ ([.string (nm k), .int .i64 k, .int .i64 rf, .int .i64 rc] : List Value)⟩)) (35, 0) (some (bk bb 30 1 S S ((vals S vq1).set k (.slice (some ⟨gg1, 0, none⟩) (e1.length + 1) cap1)))))) := Mb1.out.store Z1.out k _
      clear z1 z2 z3
      generalize w20.setCell ⟨bb, k, none⟩ (.slice (some ⟨gg1, 0, none⟩) (e1.length + 1) cap1) = w2 at Mc1 ⊢

      obtain ⟨ρ2, HR2⟩ : ∃ ρ2, Hid (upd (upd ρ1 (36, k) (some ⟨.slice (some ⟨gg1, 0, none⟩) (e1.length + 1) cap1, 29, 4, e1.length + 1, fl Rn.enc e1 ++ ([.string (nm k), .int .i64 k, .int .i64 rf, .int .i64 rc] : List Value)⟩)) (35, 0) (some (bk bb 30 1 S S ((vals S vq1).set k (.slice (some ⟨gg1, 0, none⟩) (e1.length + 1) cap1)))) = ρ2) := ⟨_, rfl⟩
      have M2 : Hid (Mm w0 w2 B ρ2) := by show Mm _ _ _ _; rw [← HR2.out]; exact Mc1.out
      have B42 : Hid (ρ2 (4, 4) = some (bk g9 29 4 1 1 [.string (nm k), .int .i64 k, .int .i64 rf, .int .i64 rc])) := by show _ = _; rw [← HR2.out, upd_other _ _ (by simp), upd_other _ _ (by simp)]; exact B41.out
      have BO2 : Hid (ρ2 (33, 0) = some (bk pb 30 1 S S (vals S vp1))) := by show _ = _; rw [← HR2.out, upd_other _ _ (by simp), upd_other _ _ (by simp)]; exact BO0.out
      have BR2 : Hid (ρ2 (34, k) = some ⟨vp1 k, 29, 4, e2.length, fl Rn.enc e2⟩) := by show _ = _; rw [← HR2.out, upd_other _ _ (by simp), upd_other _ _ (by simp)]; exact BR0.out
      go_wp2_with fail
      have HSS2 : Hid (∀ (w' : World) (ρ' : Lb → Option Rw), Mm w0 w' B ρ' → ρ' (4, 4) = ρ2 (4, 4) → ρ' (33, 0) = ρ2 (33, 0) → w'.cell? ⟨g9, 0, none⟩ = some (.string (nm k)) ∧ w'.cell? ⟨g9, 1, none⟩ = some (.int .i64 k) ∧ w'.cell? ⟨g9, 2, none⟩ = some (.int .i64 rf) ∧ w'.cell? ⟨g9, 3, none⟩ = some (.int .i64 rc) ∧ w'.cell? ⟨pb, k, none⟩ = some (vp1 k)) := fun w' ρ' h e4 e9 =>
        ⟨h.cell (e4.trans B42.out) 0 rfl, h.cell (e4.trans B42.out) 1 rfl, h.cell (e4.trans B42.out) 2 rfl, h.cell (e4.trans B42.out) 3 rfl, h.cell (e9.trans BO2.out) k (vals_at S vp1 k hkS)⟩
      have OW2 : Hid (w2.ownsRow B 29 4 (vp1 k) e2.length (fl Rn.enc e2)) := M2.out.mem.own _ _ BR2.out
      have lB2 := M2.out.le
      refine wp_region_late 9 11 (fun w' => w'.cell? ⟨g9, 0, none⟩ = some (.string (nm k)) ∧ w'.cell? ⟨g9, 1, none⟩ = some (.int .i64 k) ∧ w'.cell? ⟨g9, 2, none⟩ = some (.int .i64 rf) ∧ w'.cell? ⟨g9, 3, none⟩ = some (.int .i64 rc) ∧ w'.cell? ⟨pb, k, none⟩ = some (vp1 k)) (by kernel_rfl) (by kernel_rfl) (HSS2.out w2.drew ρ2 M2.out.drew rfl rfl) ?_
      simp only [List.take_succ_cons, List.take_zero, List.drop_succ_cons, List.drop_zero, Nat.reduceSub]
      repeat (refine wpHead_step (v := ?_) (by rfl) (by intro w hSw; go_simp; try with_reducible rfl) ?_; try simp only [Act.put, List.setIfInBounds_toArray, List.set_cons_zero, List.set_cons_succ])
      refine wpHead_nil ?_
      change wpList _ _ _ _ _ w2.drew
      go_wp2_with fail
      have Ma2 : Hid (Mm w0 (w2.alloc (.cells #[.string (nm k), .int .i64 k, .int .i64 rf, .int .i64 rc] 29)).drew B ρ2) := (M2.out.alloc _).drew
      refine ⟨HSS2.out _ _ Ma2.out rfl rfl, ?_⟩
      have OX2 : Hid ((w2.alloc (.cells #[.string (nm k), .int .i64 k, .int .i64 rf, .int .i64 rc] 29)).drew.ownsRow B 29 4 (vp1 k) e2.length (fl Rn.enc e2)) := (OW2.out.alloc _).drew
      change wpList _ _ _ _ _ _
      go_wp2_with (at_builtin; refine wpList_append_lies _ rfl _ _ 30 rfl B 29 i0 _ 4 40 Yba.underlying30 hi0 hz0 hz1 hz2 rfl (by decide) (vp1 k) e2.length (fl Rn.enc e2) rfl OX2.out ⟨w2.heap.size, 0, none⟩ 1 1 [.string (nm k), .int .i64 k, .int .i64 rf, .int .i64 rc] rfl rfl ?qn ?q1 (by decide) ?q63 ?qb ?qB (w2.heap.size + 1) ?qH ?_)
      case qn => exact World.news_of_block (cs := #[.string (nm k), .int .i64 k, .int .i64 rf, .int .i64 rc]) (t := 29) (fr := (0, 0)) (heap_alloc_new w2 _)
      case q1 => simp [Value.oneCell']
      case q63 => unfold maxLen; omega
      case qb => omega
      case qB => simp; omega
      case qH => simp
      intro gg2 cap2 w30 hown hgrow hat hlt
      have Mb2 : Hid (Mm w0 w30 B (upd ρ2 (34, k) (some ⟨.slice (some ⟨gg2, 0, none⟩) (e2.length + 1) cap2, 29, 4, e2.length + 1, fl Rn.enc e2 ++ ([.string (nm k), .int .i64 k, .int .i64 rf, .int .i64 rc] : List Value)⟩))) := Ma2.out.put BR2.out hgrow hown (fun g hg => by
        cases hg
        rcases hat with h | h
        · exact .inl h
        · right; rw [h]; simp)
      clear hown hgrow hat hlt
      go_wp2_with fail
      refine ⟨HSS2.out _ _ Mb2.out (upd_other _ _ (by simp)) (upd_other _ _ (by simp)), ?_⟩
      change wpList _ _ _ _ _ _
      have z9 : upd ρ2 (34, k) (some ⟨.slice (some ⟨gg2, 0, none⟩) (e2.length + 1) cap2, 29, 4, e2.length + 1, fl Rn.enc e2 ++ ([.string (nm k), .int .i64 k, .int .i64 rf, .int .i64 rc] : List Value)⟩) (33, 0) = _ := (upd_other _ _ (by simp)).trans BO2.out
      have z1 := Mb2.out.cell z9 k (vals_at S vp1 k hkS)
      have z2 := Mb2.out.froz z9 k
      have z3 := Mb2.out.lt z9
      have Z2 : Hid _ := z9
      clear z9
      go_wp2_with fail
      refine NoPanic.normal ?_
      have Mc2 : Hid (Mm w0 (w30.setCell ⟨pb, k, none⟩ (.slice (some ⟨gg2, 0, none⟩) (e2.length + 1) cap2)) B (upd (upd ρ2 (34, k) (some ⟨.slice (some ⟨gg2, 0, none⟩) (e2.length + 1) cap2, 29, 4, e2.length + 1, fl Rn.enc e2 ++ ([.string (nm k), .int .i64 k, .int .i64 rf, .int .i64 rc] : List Value)⟩)) (33, 0) (some (bk pb 30 1 S S ((vals S vp1).set k (.slice (some ⟨gg2, 0, none⟩) (e2.length + 1) cap2)))))) := Mb2.out.store Z2.out k _
      clear z1 z2 z3
      generalize w30.setCell ⟨pb, k, none⟩ (.slice (some ⟨gg2, 0, none⟩) (e2.length + 1) cap2) = w3 at Mc2 ⊢

      go_wp2_with fail
      go_roundw
      case rel =>
        refine ⟨i + 1, fun j => if j = k then .slice (some ⟨gg2, 0, none⟩) (e2.length + 1) cap2 else vp1 j, fun j => if j = k then .slice (some ⟨gg1, 0, none⟩) (e1.length + 1) cap1 else vq1 j, by go_num, by omega, ?_⟩
        show Mm _ _ _ _
        have h := Mc2.out.drop (4, 4)
        have ts := take_snoc d i hin2
        rw [HR.out] at ts
        have hb : ∀ j : Nat, (r.id = (j : Int)) ↔ j = k := fun j => by rw [HK.out]; omega
        rw [← HR2.out, ← HR1.out, ← HENC.out, ← HE2.out, ← HE1.out, stG_step ρ pb bb S vp1 vq1 _ (fun j => prow j ++ sel j (d.take (i + 1))) _ (fun j => sel j (d.take (i + 1))) k r _ _ _ hkS
          (fun j => by rw [ts, sel_snoc]; simp only [hb j]; by_cases e : j = k <;> simp [e]) (fun j => by rw [ts, sel_snoc]; simp only [hb j]), HE1.out, HE2.out] at h
        exact h
      case measure => simp [RowKit.intOf]; omega
    · go_wp2_with fail
      obtain rfl : i = n := by omega
      have hw := HW.out
      rw [← HN.out, List.take_length] at hw
      have he := HE.out
      rw [HN.out] at he
      exact he _ _ _ _ _ _ _ _ _ _ _ _ _ _ _ _ _ _ _ _ _ _ _ _ _ _ _ _ _ _ vp1 vq1 _ hw

end Go.Proofs.Ybulkebla

