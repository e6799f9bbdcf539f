import Derived.Test.YbulkeblaAK12
/-! The law: the runs are laid into hold and want. -/
namespace Go.Proofs.Ybulkebla
open Go.RowKit Go.Lib
set_option linter.unusedVariables false
set_option linter.unusedSectionVars false
variable [Inhabited Rn] [Inhabited Hs] [Inhabited Sc]
set_option linter.unusedSimpArgs false

/-- Peer q's runs among the first i raw ones. -/
def rns (pe : Nat → Nat) (P : Nat) (rn : Nat → Rn) (i q : Nat) : List Rn := ((List.range i).filter fun t => decide (pe t % P = q)).map rn
theorem rns_succ (pe : Nat → Nat) (P : Nat) (rn : Nat → Rn) (i q : Nat) : rns pe P rn (i + 1) q = if q = pe i % P then rns pe P rn i q ++ [rn i] else rns pe P rn i q := by
  unfold rns
  rw [List.range_succ, List.filter_append, List.map_append]
  by_cases e : q = pe i % P
  · subst e; simp
  · have e' : ¬ pe i % P = q := fun h => e h.symm
    simp [e, e']
theorem rns_len (pe : Nat → Nat) (P : Nat) (rn : Nat → Rn) (i q : Nat) : (rns pe P rn i q).length ≤ i := by
  unfold rns
  rw [List.length_map]
  exact Nat.le_trans (List.length_filter_le _ _) (by simp)
def stF (ρ : Lb → Option Rw) (hb wb P : Nat) (hv wv : Nat → Value) (rr : Nat → List Rn) : Lb → Option Rw := fun l =>
  if l.1 = 0 then if l.2 < P then some ⟨hv l.2, 29, 4, (rr l.2).length, fl Rn.enc (rr l.2)⟩ else none
  else if l.1 = 2 then if l.2 < P then some ⟨wv l.2, 29, 4, (rr l.2).length, fl Rn.enc (rr l.2)⟩ else none
  else if l = (1, 0) then some (bk hb 30 1 P P (vals P hv))
  else if l = (3, 0) then some (bk wb 30 1 P P (vals P wv))
  else if l.1 = 4 then none
  else ρ l
theorem stF_step (ρ : Lb → Option Rw) (hb wb P : Nat) (hv wv : Nat → Value) (rr rr' : Nat → List Rn) (q : Nat) (r : Rn) (v1 v2 : Value) (x y : Option Rw) (hq : q < P) (hr : ∀ j, rr' j = if j = q then rr j ++ [r] else rr j) :
    upd (upd (upd (upd (upd (upd (upd (upd (stF ρ hb wb P hv wv rr) (4, 3) x) (4, 4) y) (0, q) (some ⟨v1, 29, 4, (rr q).length + 1, fl Rn.enc (rr q) ++ Rn.enc r⟩)) (1, 0) (some (bk hb 30 1 P P ((vals P hv).set q v1))))
      (2, q) (some ⟨v2, 29, 4, (rr q).length + 1, fl Rn.enc (rr q) ++ Rn.enc r⟩)) (3, 0) (some (bk wb 30 1 P P ((vals P wv).set q v2)))) (4, 3) none) (4, 4) none = stF ρ hb wb P (fun j => if j = q then v1 else hv j) (fun j => if j = q then v2 else wv j) rr' := by
  obtain rfl : rr' = fun j => if j = q then rr j ++ [r] else rr j := funext hr
  rw [vals_set P hv q v1 hq, vals_set P wv q v2 hq]
  funext l
  obtain ⟨a, b⟩ := l
  simp only [upd, stF, Prod.mk.injEq]
  by_cases h4 : a = 4
  · subst h4
    by_cases e3 : b = 3
    · subst e3; simp
    by_cases e4 : b = 4
    · subst e4; simp
    · simp [e3, e4]
  by_cases h0 : a = 0
  · subst h0
    by_cases hb : b = q
    · subst hb; simp [hq, fl_append, fl_one]
    · simp [hb]
  by_cases h2 : a = 2
  · subst h2
    by_cases hb : b = q
    · subst hb; simp [hq, fl_append, fl_one]
    · simp [hb]
  by_cases h1 : a = 1 ∧ b = 0
  · obtain ⟨rfl, rfl⟩ := h1; simp
  by_cases h3 : a = 3 ∧ b = 0
  · obtain ⟨rfl, rfl⟩ := h3; simp
  simp [h0, h1, h2, h3, h4]

set_option maxHeartbeats 4000000 in
set_option maxRecDepth 100000 in
theorem fill {c0 c1 c2 c3 c4 c5 c6 c7 c8 c13 c14 c15 c16 c17 c18 c19 c20 c21 c22 c23 c24 c25 c26 c27 c28 c29 c30 c31 c32 c33 c34 c35 c36 c37 c38 c39 c40 c41 c42 c43 c44 c45 c46 c47 c48 c49 c50 c51 c52 c53 c54 c55 c56 c57 c58 c59 c60 c61 c62 c63 c64 c65 c66 c70 c71 c72 c73 c74 c75 c76 c77 c78 c79 c80 c81 c82 c83 c84 c85 c86 c87 c88 c89 c90 c91 c92 c93 c94 c95 c96 c97 c98 c99 c100 c101 c102 c103 c104 c105 c106 c107 c108 c109 c110 c111 c112 c113 c114 c115 c116 c117 c118 c119 c120 c121 c122 c123 c124 c125 c126 c127 c128 c129 c130 c131 c132 c133 c134 c135 c136 c137 c138 c139 c140 c141 c142 c143 c144 c145 c146 c147 c148 c149 c150 c151 c152 c153 c154 c155 c156 c157 c158 c159 c160 c161 c162 c163 c164 c165 c166 c167 c168 c169 c170 c171 c172 c173 c174 c175 c176 c177 c178 c179 c180 c181 c182 c183 c184 c185 c186 c187 c188 c189 c190 c191 c192 c193 c194 c195 c196 c197 c198 c199 c200 c201 c202 c203 c204 c205 c206 c207 c208 c209 c210 c211 c212 c213 c214 c215 c216 c217 c218 c219 c220 c221 c222 c223 c224 c225 c226 c227 c228 c229 c230 c231 c232 c233 c234 c235 c236 c237 c238 c239 c240 c241 c242 c243 c244 c245 c246 c247 c248 c249 c250 c251 c252 c253 c254 c255 c256 c257 c258 c259 c260 c261 c262 c263 c264 c265 c266 c267 c268 c269 c270 c271 c272 c273 c274 c275 c276 c277 c278 c279 c280 c281 c282 c283 c284 c285 c286 c287 c288 c289 c290 c291 c292 c293 c294 c295 c296 c297 c298 c299 c300 c301 c302 c303 c304 c305 c306 c307 c308 c309 c310 c311 c312 c313 c314 c315 c316 c317 c318 c319 c320 c321 c322 c323 c324 c325 c326 c327 c328 c329 c330 c331 c332 c333 c334 c335 c336 c337 c338 c339 c340 c341 c342 c343 c344 c345 c346 c347 c348 c349 c350 c351 c352 c353 c354 c355 c356 c357 c358 c359 c360 c361 c362 c363 c364 c365 c366 c367 c368 c369 c370 c371 c372 c373 c374 c375 c376 c377 c378 c379 c380 c381 c382 c383 c384 c385 c386 c387 c388 c389 c390 c391 c392 c393 c394 c395 c396 c397 c398 c399 c400 c401 c402 c403 c404 c405 c406 c407 c408 c409 c410 c411 c412 c413 c414 c415 c416 c417 c418 c419 c420 c421 c422 c423 c424 c425 c426 c427 c428 c429 c430 c431 c432 c433 c434 c435 c436 c437 c438 c439 c440 c441 c442 c443 c444 c445 c446 c447 c448 c449 c450 c451 c452 c453 c454 c455 c456 c457 c458 c459 c460 c461 c462 c463 c464 c465 c466 c467 c468 c469 c470 c471 c472 c473 c474 c475 c476 c477 c478 c479 c480 c481 c482 c483 c484 c485 c486 c487 c488 c489 c490 c491 c492 c493 c494 c495 c496 c497 c498 c499 c500 c501 c502 c503 c504 c505 c506 c507 c508 c509 c510 c511 c512 : Value} (w0 w : World) (B : Nat) (ρ : Lb → Option Rw) (a : Option Addr) (hb wb rb ro rc n P S : Nat) (pe se co : Nat → Nat) (fi : Nat → Int) (rn : Nat → Rn)
    (hM : Mm w0 w B (stF ρ hb wb P (fun _ => .slice none 0 0) (fun _ => .slice none 0 0) (fun _ => []))) (hn : n ≤ 4096) (hP : P ≤ 6) (hP1 : 1 ≤ P) (hS : S ≤ 6) (hS1 : 1 ≤ S) (ha : 0 < n → a = some ⟨rb, ro, none⟩ ∧ rb < B)
    (hpe : ∀ i, i < n → pe i < 256 ∧ se i < 256 ∧ co i < 256 ∧ -32768 ≤ fi i ∧ fi i ≤ 32767) (hrn : ∀ i, rn i = ⟨((se i % S : Nat) : Int), fi i, 1 + ((co i % 16 : Nat) : Int)⟩)
    (hraw : ∀ i, i < n → w0.cell? ⟨rb, ro + i * 4, none⟩ = some (.int .u8 (pe i : Nat)) ∧ w0.cell? ⟨rb, ro + i * 4 + 1, none⟩ = some (.int .u8 (se i : Nat)) ∧ w0.cell? ⟨rb, ro + i * 4 + 2, none⟩ = some (.int .i16 (fi i)) ∧ w0.cell? ⟨rb, ro + i * 4 + 3, none⟩ = some (.int .u8 (co i : Nat))) (Q : Exit → Act → World → Prop)
    (hexit : ∀ (u14 u15 u16 u17 u69 u70 u71 u72 u73 u74 u75 u76 u77 u78 u79 u80 u81 u82 u83 u84 u85 u86 u87 u88 u89 u90 u91 u92 u93 u94 u95 u96 u97 u98 u99 u100 u101 u102 u103 u104 u105 u106 u107 u108 u109 u110 u111 u112 u113 u114 u115 : Value) (hv wv : Nat → Value) (w' : World), Mm w0 w' B (stF ρ hb wb P hv wv (rns pe P rn n)) → Q .normal ⟨#[c0, c1, c2, c3, c4, c5, c6, c7, c8, .int .i64 (P : Nat), .int .i64 (S : Nat), .slice (some ⟨hb, 0, none⟩) P P, .slice (some ⟨wb, 0, none⟩) P P, c13, u14, u15, u16, u17, c18, c19, c20, c21, c22, c23, c24, c25, c26, c27, c28, c29, c30, c31, c32, c33, c34, c35, c36, c37, c38, c39, c40, c41, c42, c43, c44, c45, c46, c47, c48, c49, c50, c51, c52, c53, c54, c55, c56, c57, c58, c59, c60, c61, c62, c63, c64, c65, c66, .slice a n rc, .int .i64 (n : Nat), u69, u70, u71, u72, u73, u74, u75, u76, u77, u78, u79, u80, u81, u82, u83, u84, u85, u86, u87, u88, u89, u90, u91, u92, u93, u94, u95, u96, u97, u98, u99, u100, u101, u102, u103, u104, u105, u106, u107, u108, u109, u110, u111, u112, u113, u114, u115, c116, c117, c118, c119, c120, c121, c122, c123, c124, c125, c126, c127, c128, c129, c130, c131, c132, c133, c134, c135, c136, c137, c138, c139, c140, c141, c142, c143, c144, c145, c146, c147, c148, c149, c150, c151, c152, c153, c154, c155, c156, c157, c158, c159, c160, c161, c162, c163, c164, c165, c166, c167, c168, c169, c170, c171, c172, c173, c174, c175, c176, c177, c178, c179, c180, c181, c182, c183, c184, c185, c186, c187, c188, c189, c190, c191, c192, c193, c194, c195, c196, c197, c198, c199, c200, c201, c202, c203, c204, c205, c206, c207, c208, c209, c210, c211, c212, c213, c214, c215, c216, c217, c218, c219, c220, c221, c222, c223, c224, c225, c226, c227, c228, c229, c230, c231, c232, c233, c234, c235, c236, c237, c238, c239, c240, c241, c242, c243, c244, c245, c246, c247, c248, c249, c250, c251, c252, c253, c254, c255, c256, c257, c258, c259, c260, c261, c262, c263, c264, c265, c266, c267, c268, c269, c270, c271, c272, c273, c274, c275, c276, c277, c278, c279, c280, c281, c282, c283, c284, c285, c286, c287, c288, c289, c290, c291, c292, c293, c294, c295, c296, c297, c298, c299, c300, c301, c302, c303, c304, c305, c306, c307, c308, c309, c310, c311, c312, c313, c314, c315, c316, c317, c318, c319, c320, c321, c322, c323, c324, c325, c326, c327, c328, c329, c330, c331, c332, c333, c334, c335, c336, c337, c338, c339, c340, c341, c342, c343, c344, c345, c346, c347, c348, c349, c350, c351, c352, c353, c354, c355, c356, c357, c358, c359, c360, c361, c362, c363, c364, c365, c366, c367, c368, c369, c370, c371, c372, c373, c374, c375, c376, c377, c378, c379, c380, c381, c382, c383, c384, c385, c386, c387, c388, c389, c390, c391, c392, c393, c394, c395, c396, c397, c398, c399, c400, c401, c402, c403, c404, c405, c406, c407, c408, c409, c410, c411, c412, c413, c414, c415, c416, c417, c418, c419, c420, c421, c422, c423, c424, c425, c426, c427, c428, c429, c430, c431, c432, c433, c434, c435, c436, c437, c438, c439, c440, c441, c442, c443, c444, c445, c446, c447, c448, c449, c450, c451, c452, c453, c454, c455, c456, c457, c458, c459, c460, c461, c462, c463, c464, c465, c466, c467, c468, c469, c470, c471, c472, c473, c474, c475, c476, c477, c478, c479, c480, c481, c482, c483, c484, c485, c486, c487, c488, c489, c490, c491, c492, c493, c494, c495, c496, c497, c498, c499, c500, c501, c502, c503, c504, c505, c506, c507, c508, c509, c510, c511, c512], []⟩ w') :
    Code.wp Yba.prog (pick [true, true, true, true, true, true, false, true] (Yba.f3.body.getD .skip)) Q ⟨#[c0, c1, c2, c3, c4, c5, c6, c7, c8, .int .i64 (P : Nat), .int .i64 (S : Nat), .slice (some ⟨hb, 0, none⟩) P P, .slice (some ⟨wb, 0, none⟩) P P, c13, c14, c15, c16, c17, c18, c19, c20, c21, c22, c23, c24, c25, c26, c27, c28, c29, c30, c31, c32, c33, c34, c35, c36, c37, c38, c39, c40, c41, c42, c43, c44, c45, c46, c47, c48, c49, c50, c51, c52, c53, c54, c55, c56, c57, c58, c59, c60, c61, c62, c63, c64, c65, c66, .slice a n rc, .int .i64 (n : Nat), .int .i64 0, c70, c71, c72, c73, c74, c75, c76, c77, c78, c79, c80, c81, c82, c83, c84, c85, c86, c87, c88, c89, c90, c91, c92, c93, c94, c95, c96, c97, c98, c99, c100, c101, c102, c103, c104, c105, c106, c107, c108, c109, c110, c111, c112, c113, c114, c115, c116, c117, c118, c119, c120, c121, c122, c123, c124, c125, c126, c127, c128, c129, c130, c131, c132, c133, c134, c135, c136, c137, c138, c139, c140, c141, c142, c143, c144, c145, c146, c147, c148, c149, c150, c151, c152, c153, c154, c155, c156, c157, c158, c159, c160, c161, c162, c163, c164, c165, c166, c167, c168, c169, c170, c171, c172, c173, c174, c175, c176, c177, c178, c179, c180, c181, c182, c183, c184, c185, c186, c187, c188, c189, c190, c191, c192, c193, c194, c195, c196, c197, c198, c199, c200, c201, c202, c203, c204, c205, c206, c207, c208, c209, c210, c211, c212, c213, c214, c215, c216, c217, c218, c219, c220, c221, c222, c223, c224, c225, c226, c227, c228, c229, c230, c231, c232, c233, c234, c235, c236, c237, c238, c239, c240, c241, c242, c243, c244, c245, c246, c247, c248, c249, c250, c251, c252, c253, c254, c255, c256, c257, c258, c259, c260, c261, c262, c263, c264, c265, c266, c267, c268, c269, c270, c271, c272, c273, c274, c275, c276, c277, c278, c279, c280, c281, c282, c283, c284, c285, c286, c287, c288, c289, c290, c291, c292, c293, c294, c295, c296, c297, c298, c299, c300, c301, c302, c303, c304, c305, c306, c307, c308, c309, c310, c311, c312, c313, c314, c315, c316, c317, c318, c319, c320, c321, c322, c323, c324, c325, c326, c327, c328, c329, c330, c331, c332, c333, c334, c335, c336, c337, c338, c339, c340, c341, c342, c343, c344, c345, c346, c347, c348, c349, c350, c351, c352, c353, c354, c355, c356, c357, c358, c359, c360, c361, c362, c363, c364, c365, c366, c367, c368, c369, c370, c371, c372, c373, c374, c375, c376, c377, c378, c379, c380, c381, c382, c383, c384, c385, c386, c387, c388, c389, c390, c391, c392, c393, c394, c395, c396, c397, c398, c399, c400, c401, c402, c403, c404, c405, c406, c407, c408, c409, c410, c411, c412, c413, c414, c415, c416, c417, c418, c419, c420, c421, c422, c423, c424, c425, c426, c427, c428, c429, c430, c431, c432, c433, c434, c435, c436, c437, c438, c439, c440, c441, c442, c443, c444, c445, c446, c447, c448, c449, c450, c451, c452, c453, c454, c455, c456, c457, c458, c459, c460, c461, c462, c463, c464, c465, c466, c467, c468, c469, c470, c471, c472, c473, c474, c475, c476, c477, c478, c479, c480, c481, c482, c483, c484, c485, c486, c487, c488, c489, c490, c491, c492, c493, c494, c495, c496, c497, c498, c499, c500, c501, c502, c503, c504, c505, c506, c507, c508, c509, c510, c511, c512], []⟩ w := by
  have HM : Hid (Mm w0 w B (stF ρ hb wb P (fun _ => .slice none 0 0) (fun _ => .slice none 0 0) (fun _ => []))) := hM
  have HPE : Hid _ := hpe
  have HRN : Hid _ := hrn
  have HRAW : Hid _ := hraw
  have HRB : Hid (0 < n → a = some ⟨rb, ro, none⟩ ∧ rb < B) := ha
  have HE : Hid (∀ (u14 u15 u16 u17 u69 u70 u71 u72 u73 u74 u75 u76 u77 u78 u79 u80 u81 u82 u83 u84 u85 u86 u87 u88 u89 u90 u91 u92 u93 u94 u95 u96 u97 u98 u99 u100 u101 u102 u103 u104 u105 u106 u107 u108 u109 u110 u111 u112 u113 u114 u115 : Value) (hv wv : Nat → Value) (w' : World), Mm w0 w' B (stF ρ hb wb P hv wv (rns pe P rn n)) → Q .normal ⟨#[c0, c1, c2, c3, c4, c5, c6, c7, c8, .int .i64 (P : Nat), .int .i64 (S : Nat), .slice (some ⟨hb, 0, none⟩) P P, .slice (some ⟨wb, 0, none⟩) P P, c13, u14, u15, u16, u17, c18, c19, c20, c21, c22, c23, c24, c25, c26, c27, c28, c29, c30, c31, c32, c33, c34, c35, c36, c37, c38, c39, c40, c41, c42, c43, c44, c45, c46, c47, c48, c49, c50, c51, c52, c53, c54, c55, c56, c57, c58, c59, c60, c61, c62, c63, c64, c65, c66, .slice a n rc, .int .i64 (n : Nat), u69, u70, u71, u72, u73, u74, u75, u76, u77, u78, u79, u80, u81, u82, u83, u84, u85, u86, u87, u88, u89, u90, u91, u92, u93, u94, u95, u96, u97, u98, u99, u100, u101, u102, u103, u104, u105, u106, u107, u108, u109, u110, u111, u112, u113, u114, u115, c116, c117, c118, c119, c120, c121, c122, c123, c124, c125, c126, c127, c128, c129, c130, c131, c132, c133, c134, c135, c136, c137, c138, c139, c140, c141, c142, c143, c144, c145, c146, c147, c148, c149, c150, c151, c152, c153, c154, c155, c156, c157, c158, c159, c160, c161, c162, c163, c164, c165, c166, c167, c168, c169, c170, c171, c172, c173, c174, c175, c176, c177, c178, c179, c180, c181, c182, c183, c184, c185, c186, c187, c188, c189, c190, c191, c192, c193, c194, c195, c196, c197, c198, c199, c200, c201, c202, c203, c204, c205, c206, c207, c208, c209, c210, c211, c212, c213, c214, c215, c216, c217, c218, c219, c220, c221, c222, c223, c224, c225, c226, c227, c228, c229, c230, c231, c232, c233, c234, c235, c236, c237, c238, c239, c240, c241, c242, c243, c244, c245, c246, c247, c248, c249, c250, c251, c252, c253, c254, c255, c256, c257, c258, c259, c260, c261, c262, c263, c264, c265, c266, c267, c268, c269, c270, c271, c272, c273, c274, c275, c276, c277, c278, c279, c280, c281, c282, c283, c284, c285, c286, c287, c288, c289, c290, c291, c292, c293, c294, c295, c296, c297, c298, c299, c300, c301, c302, c303, c304, c305, c306, c307, c308, c309, c310, c311, c312, c313, c314, c315, c316, c317, c318, c319, c320, c321, c322, c323, c324, c325, c326, c327, c328, c329, c330, c331, c332, c333, c334, c335, c336, c337, c338, c339, c340, c341, c342, c343, c344, c345, c346, c347, c348, c349, c350, c351, c352, c353, c354, c355, c356, c357, c358, c359, c360, c361, c362, c363, c364, c365, c366, c367, c368, c369, c370, c371, c372, c373, c374, c375, c376, c377, c378, c379, c380, c381, c382, c383, c384, c385, c386, c387, c388, c389, c390, c391, c392, c393, c394, c395, c396, c397, c398, c399, c400, c401, c402, c403, c404, c405, c406, c407, c408, c409, c410, c411, c412, c413, c414, c415, c416, c417, c418, c419, c420, c421, c422, c423, c424, c425, c426, c427, c428, c429, c430, c431, c432, c433, c434, c435, c436, c437, c438, c439, c440, c441, c442, c443, c444, c445, c446, c447, c448, c449, c450, c451, c452, c453, c454, c455, c456, c457, c458, c459, c460, c461, c462, c463, c464, c465, c466, c467, c468, c469, c470, c471, c472, c473, c474, c475, c476, c477, c478, c479, c480, c481, c482, c483, c484, c485, c486, c487, c488, c489, c490, c491, c492, c493, c494, c495, c496, c497, c498, c499, c500, c501, c502, c503, c504, c505, c506, c507, c508, c509, c510, c511, c512], []⟩ w') := hexit
  clear hM hpe hrn hraw hexit ha
  obtain ⟨i0, hi0, hz0, hz1, hz2⟩ := info_parts info29'
  conv => arg 2; whnf
  go_wp2_with fail
  go_loopw [69] (fun v69 wr => ∃ (i : Nat) (hv wv : Nat → Value), v69 = .int .i64 i ∧ i ≤ n ∧ Hid (Mm w0 wr B (stF ρ hb wb P hv wv (rns pe P rn i)))) (fun v69 _ => n - (RowKit.intOf v69).toNat)
  case atStart =>
    refine ⟨0, fun _ => .slice none 0 0, fun _ => .slice none 0 0, rfl, by omega, ?_⟩
    show Mm _ _ _ _
    exact HM.out
  case round =>
    obtain ⟨i, hv, wv, rfl, hi, HW⟩ := hrel
    by_cases hin : i < n
    · have hq := HRAW.out i hin
      obtain ⟨ha', hb'⟩ := HRB.out (by omega)
      subst ha'
      have k0 : wr.cell? ⟨rb, ro + i * 4, none⟩ = some (.int .u8 (pe i : Nat)) := (HW.out.bel.cell (p := ⟨rb, ro + i * 4, none⟩) hb').trans hq.1
      have k1 : wr.cell? ⟨rb, ro + i * 4 + 1, none⟩ = some (.int .u8 (se i : Nat)) := (HW.out.bel.cell (p := ⟨rb, ro + i * 4 + 1, none⟩) hb').trans hq.2.1
      have k2 : wr.cell? ⟨rb, ro + i * 4 + 2, none⟩ = some (.int .i16 (fi i)) := (HW.out.bel.cell (p := ⟨rb, ro + i * 4 + 2, none⟩) hb').trans hq.2.2.1
      have k3 : wr.cell? ⟨rb, ro + i * 4 + 3, none⟩ = some (.int .u8 (co i : Nat)) := (HW.out.bel.cell (p := ⟨rb, ro + i * 4 + 3, none⟩) hb').trans hq.2.2.2
      have lg : rb < wr.heap.size := by have := HW.out.le; omega
      have hbd := HPE.out i hin
      clear hq hb'
      obtain ⟨pi, HPI⟩ : ∃ x, Hid (pe i = x) := ⟨_, rfl⟩
      obtain ⟨si, HSI⟩ : ∃ x, Hid (se i = x) := ⟨_, rfl⟩
      obtain ⟨cj, HCI⟩ : ∃ x, Hid (co i = x) := ⟨_, rfl⟩
      obtain ⟨fii, HFI⟩ : ∃ x, Hid (fi i = x) := ⟨_, rfl⟩
      rw [HPI.out] at k0 hbd
      rw [HSI.out] at k1 hbd
      rw [HFI.out] at k2 hbd
      rw [HCI.out] at k3 hbd
      go_upto_region 12 with fail
      obtain ⟨q, HQ⟩ : ∃ q, Hid (pi % P = q) := ⟨_, rfl⟩
      obtain ⟨k, HK⟩ : ∃ k, Hid (si % S = k) := ⟨_, rfl⟩
      rw [show ((pi : Nat) : Int) % ((P : Nat) : Int) = ((q : Nat) : Int) by rw [← HQ.out]; omega, show ((si : Nat) : Int) % ((S : Nat) : Int) = ((k : Nat) : Int) by rw [← HK.out]; omega]
      have hqP : q < P := by rw [← HQ.out]; exact Nat.mod_lt _ (by omega)
      have hkS : k < S := by rw [← HK.out]; exact Nat.mod_lt _ (by omega)
      obtain ⟨g14, HG14⟩ : ∃ g, Hid (wr.heap.size = g) := ⟨_, rfl⟩
      rw [HG14.out]
      have M1 : Hid (Mm w0 (wr.alloc (.cells #[.int .u8 (pi : Nat), .int .u8 (si : Nat), .int .i16 fii, .int .u8 (cj : Nat)] 26)) B (upd (stF ρ hb wb P hv wv (rns pe P rn i)) (4, 3) (some (bk g14 26 4 1 1 [.int .u8 (pi : Nat), .int .u8 (si : Nat), .int .i16 fii, .int .u8 (cj : Nat)])))) := HW.out.box (4, 3) #[.int .u8 (pi : Nat), .int .u8 (si : Nat), .int .i16 fii, .int .u8 (cj : Nat)] 26 4 1 (by decide) rfl HG14.out
      generalize wr.alloc (.cells #[.int .u8 (pi : Nat), .int .u8 (si : Nat), .int .i16 fii, .int .u8 (cj : Nat)] 26) = w1 at M1 ⊢
      refine reg12 w1 g14 k cj fii hbd.2.2.1 hbd.2.2.2 (M1.out.cell (upd_same _ _ _) 2 rfl) (M1.out.cell (upd_same _ _ _) 3 rfl) _ ?_
      intro x83 x84 x85 x86 x87 x88 x89 x90 x91 x92 x93 x94
      obtain ⟨ci, HC2⟩ : ∃ ci, Hid (1 + ((cj % 16 : Nat) : Int) = ci) := ⟨_, rfl⟩
      rw [HC2.out]
      obtain ⟨g17, HG17⟩ : ∃ g, Hid (w1.heap.size = g) := ⟨_, rfl⟩
      rw [HG17.out]
      have M3 : Hid (Mm w0 (w1.alloc (.cells #[.string (nm k), .int .i64 k, .int .i64 fii, .int .i64 ci] 29)).drew B (upd (upd (stF ρ hb wb P hv wv (rns pe P rn i)) (4, 3) (some (bk g14 26 4 1 1 [.int .u8 (pi : Nat), .int .u8 (si : Nat), .int .i16 fii, .int .u8 (cj : Nat)]))) (4, 4) (some (bk g17 29 4 1 1 [.string (nm k), .int .i64 k, .int .i64 fii, .int .i64 ci])))) := (M1.out.box (4, 4) #[.string (nm k), .int .i64 k, .int .i64 fii, .int .i64 ci] 29 4 1 (by decide) rfl HG17.out).drew
      generalize (w1.alloc (.cells #[.string (nm k), .int .i64 k, .int .i64 fii, .int .i64 ci] 29)).drew = w3 at M3 ⊢
      clear k0 k1 k2 k3 lg
      obtain ⟨e1, HE1⟩ : ∃ e1, Hid (rns pe P rn i q = e1) := ⟨_, rfl⟩
      have le1 : e1.length ≤ 4096 := by rw [← HE1.out]; exact Nat.le_trans (rns_len pe P rn i q) (by omega)
      obtain ⟨ρ3, HR3⟩ : ∃ ρ3, Hid (upd (upd (stF ρ hb wb P hv wv (rns pe P rn i)) (4, 3) (some (bk g14 26 4 1 1 [.int .u8 (pi : Nat), .int .u8 (si : Nat), .int .i16 fii, .int .u8 (cj : Nat)]))) (4, 4) (some (bk g17 29 4 1 1 [.string (nm k), .int .i64 k, .int .i64 fii, .int .i64 ci])) = ρ3) := ⟨_, rfl⟩
      rw [HR3.out] at M3
      have B41 : Hid (ρ3 (4, 4) = some (bk g17 29 4 1 1 [.string (nm k), .int .i64 k, .int .i64 fii, .int .i64 ci])) := by show _ = _; rw [← HR3.out, upd_same]
      have BO1 : Hid (ρ3 (1, 0) = some (bk hb 30 1 P P (vals P hv))) := by show _ = _; rw [← HR3.out]; simp [upd, stF]
      have BR1 : Hid (ρ3 (0, q) = some ⟨hv q, 29, 4, e1.length, fl Rn.enc e1⟩) := by show _ = _; rw [← HR3.out, ← HE1.out]; simp [upd, stF, hqP]
      have BO0 : Hid (ρ3 (3, 0) = some (bk wb 30 1 P P (vals P wv))) := by show _ = _; rw [← HR3.out]; simp [upd, stF]
      have BR0 : Hid (ρ3 (2, q) = some ⟨wv q, 29, 4, e1.length, fl Rn.enc e1⟩) := by show _ = _; rw [← HR3.out, ← HE1.out]; simp [upd, stF, hqP]
      have hp1 : (0 : Int) ≤ (q : Int) := Int.natCast_nonneg _
      have hp2 : (q : Int) < (P : Int) := by omega
      go_wp2_with fail
      have HSS1 : Hid (∀ (w' : World) (ρ' : Lb → Option Rw), Mm w0 w' B ρ' → ρ' (4, 4) = ρ3 (4, 4) → ρ' (1, 0) = ρ3 (1, 0) → w'.cell? ⟨g17, 0, none⟩ = some (.string (nm k)) ∧ w'.cell? ⟨g17, 1, none⟩ = some (.int .i64 k) ∧ w'.cell? ⟨g17, 2, none⟩ = some (.int .i64 fii) ∧ w'.cell? ⟨g17, 3, none⟩ = some (.int .i64 ci) ∧ w'.cell? ⟨hb, q, none⟩ = some (hv q)) := fun w' ρ' h e4 e9 =>
        ⟨h.cell (e4.trans B41.out) 0 rfl, h.cell (e4.trans B41.out) 1 rfl, h.cell (e4.trans B41.out) 2 rfl, h.cell (e4.trans B41.out) 3 rfl, h.cell (e9.trans BO1.out) q (vals_at P hv q hqP)⟩
      have OW1 : Hid (w3.ownsRow B 29 4 (hv q) e1.length (fl Rn.enc e1)) := M3.out.mem.own _ _ BR1.out
      have lB1 := M3.out.le
      refine wp_region_late 7 9 (fun w' => w'.cell? ⟨g17, 0, none⟩ = some (.string (nm k)) ∧ w'.cell? ⟨g17, 1, none⟩ = some (.int .i64 k) ∧ w'.cell? ⟨g17, 2, none⟩ = some (.int .i64 fii) ∧ w'.cell? ⟨g17, 3, none⟩ = some (.int .i64 ci) ∧ w'.cell? ⟨hb, q, none⟩ = some (hv q)) (by kernel_rfl) (by kernel_rfl) (HSS1.out w3.drew ρ3 M3.out.drew rfl rfl) ?_
      simp only [List.take_succ_cons, List.take_zero, List.drop_succ_cons, List.drop_zero, Nat.reduceSub]
      repeat (refine wpHead_step (v := ?_) (by rfl) (by intro w hSw; go_simp; try with_reducible rfl) ?_; try simp only [Act.put, List.setIfInBounds_toArray, List.set_cons_zero, List.set_cons_succ])
      refine wpHead_nil ?_
      change wpList _ _ _ _ _ w3.drew
      go_wp2_with fail
      have Ma1 : Hid (Mm w0 (w3.alloc (.cells #[.string (nm k), .int .i64 k, .int .i64 fii, .int .i64 ci] 29)).drew B ρ3) := (M3.out.alloc _).drew
      refine ⟨HSS1.out _ _ Ma1.out rfl rfl, ?_⟩
      have OX1 : Hid ((w3.alloc (.cells #[.string (nm k), .int .i64 k, .int .i64 fii, .int .i64 ci] 29)).drew.ownsRow B 29 4 (hv q) e1.length (fl Rn.enc e1)) := (OW1.out.alloc _).drew
      change wpList _ _ _ _ _ _
      go_wp2_with (at_builtin; refine wpList_append_lies _ rfl _ _ 30 rfl B 29 i0 _ 4 40 Yba.underlying30 hi0 hz0 hz1 hz2 rfl (by decide) (hv q) e1.length (fl Rn.enc e1) rfl OX1.out ⟨w3.heap.size, 0, none⟩ 1 1 [.string (nm k), .int .i64 k, .int .i64 fii, .int .i64 ci] rfl rfl ?qn ?q1 (by decide) ?q63 ?qb ?qB (w3.heap.size + 1) ?qH ?_)
      case qn => exact World.news_of_block (cs := #[.string (nm k), .int .i64 k, .int .i64 fii, .int .i64 ci]) (t := 29) (fr := (0, 0)) (heap_alloc_new w3 _)
      case q1 => simp [Value.oneCell']
      case q63 => unfold maxLen; omega
      case qb => omega
      case qB => simp; omega
      case qH => simp
      intro gg1 cap1 w40 hown hgrow hat hlt
      have Mb1 : Hid (Mm w0 w40 B (upd ρ3 (0, q) (some ⟨.slice (some ⟨gg1, 0, none⟩) (e1.length + 1) cap1, 29, 4, e1.length + 1, fl Rn.enc e1 ++ ([.string (nm k), .int .i64 k, .int .i64 fii, .int .i64 ci] : List Value)⟩))) := Ma1.out.put BR1.out hgrow hown (fun g hg => by
        cases hg
        rcases hat with h | h
        · exact .inl h
        · right; rw [h]; simp)
      clear hown hgrow hat hlt
      go_wp2_with fail
      refine ⟨HSS1.out _ _ Mb1.out (upd_other _ _ (by simp)) (upd_other _ _ (by simp)), ?_⟩
      change wpList _ _ _ _ _ _
      have z9 : upd ρ3 (0, q) (some ⟨.slice (some ⟨gg1, 0, none⟩) (e1.length + 1) cap1, 29, 4, e1.length + 1, fl Rn.enc e1 ++ ([.string (nm k), .int .i64 k, .int .i64 fii, .int .i64 ci] : List Value)⟩) (1, 0) = _ := (upd_other _ _ (by simp)).trans BO1.out
      have z1 := Mb1.out.cell z9 q (vals_at P hv q hqP)
      have z2 := Mb1.out.froz z9 q
      have z3 := Mb1.out.lt z9
      have Z1 : Hid _ := z9
      clear z9
      go_wp2_with fail
      refine NoPanic.normal ?_
      have Mc1 : Hid (Mm w0 (w40.setCell ⟨hb, q, none⟩ (.slice (some ⟨gg1, 0, none⟩) (e1.length + 1) cap1)) B (upd (upd ρ3 (0, q) (some ⟨.slice (some ⟨gg1, 0, none⟩) (e1.length + 1) cap1, 29, 4, e1.length + 1, fl Rn.enc e1 ++ ([.string (nm k), .int .i64 k, .int .i64 fii, .int .i64 ci] : List Value)⟩)) (1, 0) (some (bk hb 30 1 P P ((vals P hv).set q (.slice (some ⟨gg1, 0, none⟩) (e1.length + 1) cap1)))))) := Mb1.out.store Z1.out q _
      clear z1 z2 z3
      generalize w40.setCell ⟨hb, q, none⟩ (.slice (some ⟨gg1, 0, none⟩) (e1.length + 1) cap1) = w4 at Mc1 ⊢

      obtain ⟨ρ4, HR4⟩ : ∃ ρ4, Hid (upd (upd ρ3 (0, q) (some ⟨.slice (some ⟨gg1, 0, none⟩) (e1.length + 1) cap1, 29, 4, e1.length + 1, fl Rn.enc e1 ++ ([.string (nm k), .int .i64 k, .int .i64 fii, .int .i64 ci] : List Value)⟩)) (1, 0) (some (bk hb 30 1 P P ((vals P hv).set q (.slice (some ⟨gg1, 0, none⟩) (e1.length + 1) cap1)))) = ρ4) := ⟨_, rfl⟩
      have M4 : Hid (Mm w0 w4 B ρ4) := by show Mm _ _ _ _; rw [← HR4.out]; exact Mc1.out
      have B42 : Hid (ρ4 (4, 4) = some (bk g17 29 4 1 1 [.string (nm k), .int .i64 k, .int .i64 fii, .int .i64 ci])) := by show _ = _; rw [← HR4.out, upd_other _ _ (by simp), upd_other _ _ (by simp)]; exact B41.out
      have BO2 : Hid (ρ4 (3, 0) = some (bk wb 30 1 P P (vals P wv))) := by show _ = _; rw [← HR4.out, upd_other _ _ (by simp), upd_other _ _ (by simp)]; exact BO0.out
      have BR2 : Hid (ρ4 (2, q) = some ⟨wv q, 29, 4, e1.length, fl Rn.enc e1⟩) := by show _ = _; rw [← HR4.out, upd_other _ _ (by simp), upd_other _ _ (by simp)]; exact BR0.out
      go_wp2_with fail
      have HSS2 : Hid (∀ (w' : World) (ρ' : Lb → Option Rw), Mm w0 w' B ρ' → ρ' (4, 4) = ρ4 (4, 4) → ρ' (3, 0) = ρ4 (3, 0) → w'.cell? ⟨g17, 0, none⟩ = some (.string (nm k)) ∧ w'.cell? ⟨g17, 1, none⟩ = some (.int .i64 k) ∧ w'.cell? ⟨g17, 2, none⟩ = some (.int .i64 fii) ∧ w'.cell? ⟨g17, 3, none⟩ = some (.int .i64 ci) ∧ w'.cell? ⟨wb, q, none⟩ = some (wv q)) := fun w' ρ' h e4 e9 =>
        ⟨h.cell (e4.trans B42.out) 0 rfl, h.cell (e4.trans B42.out) 1 rfl, h.cell (e4.trans B42.out) 2 rfl, h.cell (e4.trans B42.out) 3 rfl, h.cell (e9.trans BO2.out) q (vals_at P wv q hqP)⟩
      have OW2 : Hid (w4.ownsRow B 29 4 (wv q) e1.length (fl Rn.enc e1)) := M4.out.mem.own _ _ BR2.out
      have lB2 := M4.out.le
      refine wp_region_late 7 9 (fun w' => w'.cell? ⟨g17, 0, none⟩ = some (.string (nm k)) ∧ w'.cell? ⟨g17, 1, none⟩ = some (.int .i64 k) ∧ w'.cell? ⟨g17, 2, none⟩ = some (.int .i64 fii) ∧ w'.cell? ⟨g17, 3, none⟩ = some (.int .i64 ci) ∧ w'.cell? ⟨wb, q, none⟩ = some (wv q)) (by kernel_rfl) (by kernel_rfl) (HSS2.out w4.drew ρ4 M4.out.drew rfl rfl) ?_
      simp only [List.take_succ_cons, List.take_zero, List.drop_succ_cons, List.drop_zero, Nat.reduceSub]
      repeat (refine wpHead_step (v := ?_) (by rfl) (by intro w hSw; go_simp; try with_reducible rfl) ?_; try simp only [Act.put, List.setIfInBounds_toArray, List.set_cons_zero, List.set_cons_succ])
      refine wpHead_nil ?_
      change wpList _ _ _ _ _ w4.drew
      go_wp2_with fail
      have Ma2 : Hid (Mm w0 (w4.alloc (.cells #[.string (nm k), .int .i64 k, .int .i64 fii, .int .i64 ci] 29)).drew B ρ4) := (M4.out.alloc _).drew
      refine ⟨HSS2.out _ _ Ma2.out rfl rfl, ?_⟩
      have OX2 : Hid ((w4.alloc (.cells #[.string (nm k), .int .i64 k, .int .i64 fii, .int .i64 ci] 29)).drew.ownsRow B 29 4 (wv q) e1.length (fl Rn.enc e1)) := (OW2.out.alloc _).drew
      change wpList _ _ _ _ _ _
      go_wp2_with (at_builtin; refine wpList_append_lies _ rfl _ _ 30 rfl B 29 i0 _ 4 40 Yba.underlying30 hi0 hz0 hz1 hz2 rfl (by decide) (wv q) e1.length (fl Rn.enc e1) rfl OX2.out ⟨w4.heap.size, 0, none⟩ 1 1 [.string (nm k), .int .i64 k, .int .i64 fii, .int .i64 ci] rfl rfl ?qn ?q1 (by decide) ?q63 ?qb ?qB (w4.heap.size + 1) ?qH ?_)
      case qn => exact World.news_of_block (cs := #[.string (nm k), .int .i64 k, .int .i64 fii, .int .i64 ci]) (t := 29) (fr := (0, 0)) (heap_alloc_new w4 _)
      case q1 => simp [Value.oneCell']
      case q63 => unfold maxLen; omega
      case qb => omega
      case qB => simp; omega
      case qH => simp
      intro gg2 cap2 w50 hown hgrow hat hlt
      have Mb2 : Hid (Mm w0 w50 B (upd ρ4 (2, q) (some ⟨.slice (some ⟨gg2, 0, none⟩) (e1.length + 1) cap2, 29, 4, e1.length + 1, fl Rn.enc e1 ++ ([.string (nm k), .int .i64 k, .int .i64 fii, .int .i64 ci] : List Value)⟩))) := Ma2.out.put BR2.out hgrow hown (fun g hg => by
        cases hg
        rcases hat with h | h
        · exact .inl h
        · right; rw [h]; simp)
      clear hown hgrow hat hlt
      go_wp2_with fail
      refine ⟨HSS2.out _ _ Mb2.out (upd_other _ _ (by simp)) (upd_other _ _ (by simp)), ?_⟩
      change wpList _ _ _ _ _ _
      have z9 : upd ρ4 (2, q) (some ⟨.slice (some ⟨gg2, 0, none⟩) (e1.length + 1) cap2, 29, 4, e1.length + 1, fl Rn.enc e1 ++ ([.string (nm k), .int .i64 k, .int .i64 fii, .int .i64 ci] : List Value)⟩) (3, 0) = _ := (upd_other _ _ (by simp)).trans BO2.out
      have z1 := Mb2.out.cell z9 q (vals_at P wv q hqP)
      have z2 := Mb2.out.froz z9 q
      have z3 := Mb2.out.lt z9
      have Z2 : Hid _ := z9
      clear z9
      go_wp2_with fail
      refine NoPanic.normal ?_
      have Mc2 : Hid (Mm w0 (w50.setCell ⟨wb, q, none⟩ (.slice (some ⟨gg2, 0, none⟩) (e1.length + 1) cap2)) B (upd (upd ρ4 (2, q) (some ⟨.slice (some ⟨gg2, 0, none⟩) (e1.length + 1) cap2, 29, 4, e1.length + 1, fl Rn.enc e1 ++ ([.string (nm k), .int .i64 k, .int .i64 fii, .int .i64 ci] : List Value)⟩)) (3, 0) (some (bk wb 30 1 P P ((vals P wv).set q (.slice (some ⟨gg2, 0, none⟩) (e1.length + 1) cap2)))))) := Mb2.out.store Z2.out q _
      clear z1 z2 z3
      generalize w50.setCell ⟨wb, q, none⟩ (.slice (some ⟨gg2, 0, none⟩) (e1.length + 1) cap2) = w5 at Mc2 ⊢

      go_wp2_with fail
      go_roundw
      case rel =>
        refine ⟨i + 1, fun j => if j = q then .slice (some ⟨gg1, 0, none⟩) (e1.length + 1) cap1 else hv j, fun j => if j = q then .slice (some ⟨gg2, 0, none⟩) (e1.length + 1) cap2 else wv j, by go_num, by omega, ?_⟩
        show Mm _ _ _ _
        have h := (Mc2.out.drop (4, 3)).drop (4, 4)
        have hq2 : pe i % P = q := by rw [HPI.out]; exact HQ.out
        have henc : Rn.enc (rn i) = [.string (nm k), .int .i64 k, .int .i64 fii, .int .i64 ci] := by
          rw [HRN.out i]
          show [Value.string (nm ((se i % S : Nat) : Int)), .int .i64 ((se i % S : Nat) : Int), .int .i64 (fi i), .int .i64 (1 + ((co i % 16 : Nat) : Int))] = _
          rw [HSI.out, HFI.out, HCI.out, HK.out, HC2.out]
        rw [← HR4.out, ← HR3.out, ← henc, ← HE1.out, stF_step ρ hb wb P hv wv (rns pe P rn i) (rns pe P rn (i + 1)) q (rn i) _ _ _ _ hqP (fun j => by rw [rns_succ, hq2]), HE1.out] at h
        exact h
      case measure => simp [RowKit.intOf]; omega
    · go_wp2_with fail
      obtain rfl : i = n := by omega
      exact HE.out _ _ _ _ _ _ _ _ _ _ _ _ _ _ _ _ _ _ _ _ _ _ _ _ _ _ _ _ _ _ _ _ _ _ _ _ _ _ _ _ _ _ _ _ _ _ _ _ _ _ _ hv wv _ HW.out

end Go.Proofs.Ybulkebla

