import Derived.Test.YbulkdsruGreatDoorL7a
import Derived.Test.YbulkdsruGreatDoorLl
namespace Go.Proofs.YbulkdsruGreatDoor
open Go.RowKit Go.Op
set_option linter.unusedVariables false
set_option linter.unusedSimpArgs false
structure C82 (Y : World) (M B : Obj) (ls : Nat → Bool) (a : Act) (w : World) : Prop where
  c : w = if ls 12 = true then (Y.drew.alloc M).alloc B else if ls 3 = true then Y.drew.alloc M else Y.drew
  imp : ls 12 = true → ls 3 = true
  imp2 : ls 11 = true → ls 3 = true
theorem C82.skip {Y : World} {M B : Obj} {ls : Nat → Bool} {a a' : Act} {w : World} (h : C82 Y M B ls a w) (i : Nat) (h3 : 3 ≠ i) (h12 : 12 ≠ i) (h11 : 11 ≠ i) : C82 Y M B (upL ls i) a' w := by
  obtain ⟨a1, a2, a3⟩ := h
  exact ⟨by simpa [upL, h3, h12] using a1, by simpa [upL, h3, h12] using a2, by simpa [upL, h3, h11] using a3⟩
theorem C82.skip11 {Y : World} {M B : Obj} {ls : Nat → Bool} {a a' : Act} {w : World} (h : C82 Y M B ls a w) (h3 : ls 3 = true) : C82 Y M B (upL ls 11) a' w := by
  obtain ⟨a1, a2, a3⟩ := h
  exact ⟨by simpa [upL] using a1, by simpa [upL] using a2, by simp [upL, h3]⟩
theorem C82.c0 {Y : World} {M B : Obj} {ls : Nat → Bool} {a : Act} {w : World} (h : C82 Y M B ls a w) (h3 : ls 3 = false) : w = Y.drew := by
  obtain ⟨a1, a2, a3⟩ := h
  have h12 : ls 12 = false := by cases hh : ls 12 with | false => rfl | true => rw [a2 hh] at h3; cases h3
  simpa [h3, h12] using a1
theorem C82.c1 {Y : World} {M B : Obj} {ls : Nat → Bool} {a : Act} {w : World} (h : C82 Y M B ls a w) (h3 : ls 3 = true) (h12 : ls 12 = false) : w = Y.drew.alloc M := by
  simpa [h3, h12] using h.c
theorem C82.toM {Y : World} {M B : Obj} {ls : Nat → Bool} {a a' : Act} {w : World} (h : C82 Y M B ls a w) (h3 : ls 3 = false) : C82 Y M B (upL ls 3) a' (Y.drew.alloc M) := by
  obtain ⟨a1, a2, a3⟩ := h
  have h12 : ls 12 = false := by cases hh : ls 12 with | false => rfl | true => rw [a2 hh] at h3; cases h3
  exact ⟨by simp [upL, h12], by simp [upL], by simp [upL]⟩
theorem C82.toB {Y : World} {M B : Obj} {ls : Nat → Bool} {a a' : Act} {w : World} (h : C82 Y M B ls a w) (h3 : ls 3 = true) (h12 : ls 12 = false) : C82 Y M B (upL ls 12) a' ((Y.drew.alloc M).alloc B) :=
  ⟨by simp [upL], by simp [upL, h3], by simp [upL, h3]⟩
theorem C82.bel {Y : World} {M B : Obj} {ls : Nat → Bool} {a : Act} {w : World} (h : C82 Y M B ls a w) : Below Y.heap.size Y w := by
  have b0 : Below Y.heap.size Y Y.drew := (Below.refl _ _).drew
  have b1 : Below Y.heap.size Y (Y.drew.alloc M) := b0.trans (show Below Y.drew.heap.size Y.drew (Y.drew.alloc M) from (Below.refl _ _).alloc (Nat.le_refl _) _)
  have b2 : Below Y.heap.size Y ((Y.drew.alloc M).alloc B) := b1.trans (((Below.refl _ _).alloc (Nat.le_refl _) _).mono b1.size)
  obtain ⟨a1, a2, a3⟩ := h
  rw [a1]
  split
  · exact b2
  · split
    · exact b1
    · exact b0
noncomputable def psi82 (N mb : Nat) (avg sn pm byes : Int) (tp tn : Tm) (lv : Bool) : Nat → Value → Prop
  | 299 => fun v => v = .int .u16 avg
  | 300 => fun v => v = .float .f64 (floatOfInt .f64 avg)
  | 301 => fun v => v = .map (some mb)
  | 302 => fun v => v = .map (some N)
  | 303 => fun v => v = .int .i64 sn
  | 304 => fun v => v = .int .u8 pm
  | 305 => fun v => v = .int .i64 pm
  | 306 => fun v => v = tv tp.n tp.s
  | 307 => fun v => v = tv tn.n tn.s
  | 308 => fun v => v = .bool lv
  | 309 => fun v => v = .int .i64 byes
  | 310 => fun v => v = .agg #[.float .f64 4652007308841189376, .nilFunc, .float .f64 (floatOfInt .f64 avg), .bool true, .bool false, .map (some N), .int .i64 sn, .int .i64 pm, .int .u64 tp.n, .int .i64 tp.s, .pointer none, .int .u64 tn.n, .int .i64 tn.s, .pointer none, .bool lv, .int .i64 byes]
  | 311 => fun v => v = .pointer (some ⟨N + 1, 0, none⟩)
  | 52 => fun v => v = .pointer (some ⟨N + 1, 0, none⟩)
  | _ => fun _ => True
set_option maxRecDepth 100000 in
set_option maxHeartbeats 2000000 in
theorem reg82 (pb nb mb n c : Nat) (avg sn pm byes : Int) (tp tn : Tm) (lv : Bool) (f : Int → Option Value) (Y : World) (hm : mp Y mb n c f) (hA : Y.heap[pb]? = some (.cells #[.int .u64 tp.n, .int .i64 tp.s, .pointer none] 48)) (hB : Y.heap[nb]? = some (.cells #[.int .u64 tn.n, .int .i64 tn.s, .pointer none] 48)) (hpm0 : 0 ≤ pm) (hpm1 : pm ≤ 255)
    (Q : Exit → Act → World → Prop) {u4 u5 u6 u7 u8 u9 u10 u11 u12 u13 u14 u15 u16 u17 u18 u19 u20 u21 u22 u23 u24 u25 u26 u27 u28 u29 u30 u31 u32 u33 u34 u35 u36 u38 u39 u40 u41 u42 u43 u45 u46 u47 u48 u51 u52 u53 u54 u55 u56 u57 u58 u59 u60 u61 u62 u63 u64 u65 u66 u67 u68 u69 u70 u71 u72 u73 u74 u75 u76 u77 u78 u79 u80 u81 u82 u83 u84 u85 u86 u87 u88 u89 u90 u91 u92 u93 u94 u95 u96 u97 u98 u99 u100 u101 u102 u103 u104 u105 u106 u107 u108 u109 u110 u111 u112 u113 u114 u115 u116 u117 u118 u119 u120 u121 u122 u123 u124 u125 u126 u127 u128 u129 u130 u131 u132 u133 u134 u135 u136 u137 u138 u139 u140 u141 u142 u143 u144 u145 u146 u147 u148 u149 u150 u151 u152 u153 u154 u155 u156 u157 u158 u159 u160 u161 u162 u163 u164 u165 u166 u167 u168 u169 u170 u171 u172 u173 u174 u175 u176 u177 u178 u179 u180 u181 u182 u183 u184 u185 u186 u187 u188 u189 u190 u191 u192 u193 u194 u195 u196 u197 u198 u199 u200 u201 u202 u203 u204 u205 u206 u207 u208 u209 u210 u211 u212 u213 u214 u215 u216 u217 u218 u219 u220 u221 u222 u223 u224 u225 u226 u227 u228 u229 u230 u231 u232 u233 u234 u235 u236 u237 u238 u239 u240 u241 u242 u243 u244 u245 u246 u247 u248 u249 u250 u251 u252 u253 u254 u255 u256 u257 u258 u259 u260 u261 u262 u263 u264 u265 u266 u267 u268 u269 u270 u271 u272 u273 u274 u275 u276 u277 u278 u279 u280 u281 u282 u283 u284 u285 u286 u287 u288 u289 u290 u291 u292 u293 u294 u295 u296 u297 u298 u299 u300 u301 u302 u303 u304 u305 u306 u307 u308 u309 u310 u311 u312 u313 u314 u315 u316 u317 u318 u319 u320 u321 u322 u323 u324 u325 u326 u327 u328 u329 u330 u331 u332 u333 u334 u335 u336 u337 u338 u339 u340 u341 u342 u343 u344 u345 u346 u347 u348 u349 u350 u351 u352 u353 u354 u355 u356 u357 u358 u359 u360 u361 u362 u363 u364 u365 u366 u367 u368 u369 u370 u371 u372 u373 u374 u375 u376 u377 u378 u379 u380 u381 u382 u383 u384 u385 u386 u387 u388 u389 u390 u391 u392 u393 u394 u395 u396 u397 u398 u399 u400 u401 u402 u403 u404 u405 u406 u407 u408 u409 u410 u411 u412 u413 u414 u415 u416 u417 u418 u419 u420 u421 u422 u423 u424 u425 u426 u427 u428 u429 u430 u431 u432 u433 u434 u435 u436 u437 u438 u439 u440 u441 u442 u443 u444 u445 u446 u447 u448 u449 u450 u451 u452 u453 u454 u455 u456 u457 u458 u459 u460 u461 u462 u463 u464 u465 u466 u467 u468 u469 u470 u471 u472 u473 u474 u475 u476 u477 u478 u479 u480 u481 u482 u483 u484 u485 u486 u487 u488 u489 u490 u491 u492 u493 u494 u495 u496 u497 u498 u499 u500 u501 u502 u503 u504 u505 u506 u507 u508 u509 u510 u511 u512 u513 u514 u515 u516 u517 u518 u519 u520 u521 u522 u523 u524 u525 u526 u527 u528 u529 u530 u531 u532 u533 u534 u535 u536 u537 u538 u539 u540 u541 u542 u543 u544 u545 u546 u547 u548 u549 u550 u551 u552 u553 u554 u555 u556 u557 u558 u559 u560 u561 u562 u563 u564 u565 u566 u567 u568 u569 u570 u571 u572 u573 u574 u575 u576 u577 u578 u579 u580 u581 u582 u583 u584 u585 u586 u587 u588 u589 u590 u591 u592 u593 u594 u595 u596 u597 u598 u599 u600 u601 u602 u603 u604 u605 u606 u607 u608 u609 u610 u611 u612 u613 : Value}
    (hK : ∀ (x299 x300 x301 x302 x303 x304 x305 x306 x307 x308 x309 x310 x311 : Value) (W' : World), mp W' Y.heap.size n c f → Stt W' (Y.heap.size + 1) ({ avg := floatOfInt .f64 avg, mb := Y.heap.size, snd := sn, pm := pm, tp := tp, tn := tn, lv := lv, byes := byes } : StV) → Below Y.heap.size Y W' → Q .normal { tmps := #[.bool lv, .int .i64 byes, .int .u16 avg, .int .u8 pm, u4, u5, u6, u7, u8, u9, u10, u11, u12, u13, u14, u15, u16, u17, u18, u19, u20, u21, u22, u23, u24, u25, u26, u27, u28, u29, u30, u31, u32, u33, u34, u35, u36, .map (some mb), u38, u39, u40, u41, u42, u43, .int .i64 sn, u45, u46, u47, u48, .pointer (some ⟨pb, 0, none⟩), .pointer (some ⟨nb, 0, none⟩), u51, .pointer (some ⟨Y.heap.size + 1, 0, none⟩), u53, u54, u55, u56, u57, u58, u59, u60, u61, u62, u63, u64, u65, u66, u67, u68, u69, u70, u71, u72, u73, u74, u75, u76, u77, u78, u79, u80, u81, u82, u83, u84, u85, u86, u87, u88, u89, u90, u91, u92, u93, u94, u95, u96, u97, u98, u99, u100, u101, u102, u103, u104, u105, u106, u107, u108, u109, u110, u111, u112, u113, u114, u115, u116, u117, u118, u119, u120, u121, u122, u123, u124, u125, u126, u127, u128, u129, u130, u131, u132, u133, u134, u135, u136, u137, u138, u139, u140, u141, u142, u143, u144, u145, u146, u147, u148, u149, u150, u151, u152, u153, u154, u155, u156, u157, u158, u159, u160, u161, u162, u163, u164, u165, u166, u167, u168, u169, u170, u171, u172, u173, u174, u175, u176, u177, u178, u179, u180, u181, u182, u183, u184, u185, u186, u187, u188, u189, u190, u191, u192, u193, u194, u195, u196, u197, u198, u199, u200, u201, u202, u203, u204, u205, u206, u207, u208, u209, u210, u211, u212, u213, u214, u215, u216, u217, u218, u219, u220, u221, u222, u223, u224, u225, u226, u227, u228, u229, u230, u231, u232, u233, u234, u235, u236, u237, u238, u239, u240, u241, u242, u243, u244, u245, u246, u247, u248, u249, u250, u251, u252, u253, u254, u255, u256, u257, u258, u259, u260, u261, u262, u263, u264, u265, u266, u267, u268, u269, u270, u271, u272, u273, u274, u275, u276, u277, u278, u279, u280, u281, u282, u283, u284, u285, u286, u287, u288, u289, u290, u291, u292, u293, u294, u295, u296, u297, u298, x299, x300, x301, x302, x303, x304, x305, x306, x307, x308, x309, x310, x311, u312, u313, u314, u315, u316, u317, u318, u319, u320, u321, u322, u323, u324, u325, u326, u327, u328, u329, u330, u331, u332, u333, u334, u335, u336, u337, u338, u339, u340, u341, u342, u343, u344, u345, u346, u347, u348, u349, u350, u351, u352, u353, u354, u355, u356, u357, u358, u359, u360, u361, u362, u363, u364, u365, u366, u367, u368, u369, u370, u371, u372, u373, u374, u375, u376, u377, u378, u379, u380, u381, u382, u383, u384, u385, u386, u387, u388, u389, u390, u391, u392, u393, u394, u395, u396, u397, u398, u399, u400, u401, u402, u403, u404, u405, u406, u407, u408, u409, u410, u411, u412, u413, u414, u415, u416, u417, u418, u419, u420, u421, u422, u423, u424, u425, u426, u427, u428, u429, u430, u431, u432, u433, u434, u435, u436, u437, u438, u439, u440, u441, u442, u443, u444, u445, u446, u447, u448, u449, u450, u451, u452, u453, u454, u455, u456, u457, u458, u459, u460, u461, u462, u463, u464, u465, u466, u467, u468, u469, u470, u471, u472, u473, u474, u475, u476, u477, u478, u479, u480, u481, u482, u483, u484, u485, u486, u487, u488, u489, u490, u491, u492, u493, u494, u495, u496, u497, u498, u499, u500, u501, u502, u503, u504, u505, u506, u507, u508, u509, u510, u511, u512, u513, u514, u515, u516, u517, u518, u519, u520, u521, u522, u523, u524, u525, u526, u527, u528, u529, u530, u531, u532, u533, u534, u535, u536, u537, u538, u539, u540, u541, u542, u543, u544, u545, u546, u547, u548, u549, u550, u551, u552, u553, u554, u555, u556, u557, u558, u559, u560, u561, u562, u563, u564, u565, u566, u567, u568, u569, u570, u571, u572, u573, u574, u575, u576, u577, u578, u579, u580, u581, u582, u583, u584, u585, u586, u587, u588, u589, u590, u591, u592, u593, u594, u595, u596, u597, u598, u599, u600, u601, u602, u603, u604, u605, u606, u607, u608, u609, u610, u611, u612, u613], defers := [] } W') :
    Code.wp Ybaz.prog (lawReg 82) Q { tmps := #[.bool lv, .int .i64 byes, .int .u16 avg, .int .u8 pm, u4, u5, u6, u7, u8, u9, u10, u11, u12, u13, u14, u15, u16, u17, u18, u19, u20, u21, u22, u23, u24, u25, u26, u27, u28, u29, u30, u31, u32, u33, u34, u35, u36, .map (some mb), u38, u39, u40, u41, u42, u43, .int .i64 sn, u45, u46, u47, u48, .pointer (some ⟨pb, 0, none⟩), .pointer (some ⟨nb, 0, none⟩), u51, u52, u53, u54, u55, u56, u57, u58, u59, u60, u61, u62, u63, u64, u65, u66, u67, u68, u69, u70, u71, u72, u73, u74, u75, u76, u77, u78, u79, u80, u81, u82, u83, u84, u85, u86, u87, u88, u89, u90, u91, u92, u93, u94, u95, u96, u97, u98, u99, u100, u101, u102, u103, u104, u105, u106, u107, u108, u109, u110, u111, u112, u113, u114, u115, u116, u117, u118, u119, u120, u121, u122, u123, u124, u125, u126, u127, u128, u129, u130, u131, u132, u133, u134, u135, u136, u137, u138, u139, u140, u141, u142, u143, u144, u145, u146, u147, u148, u149, u150, u151, u152, u153, u154, u155, u156, u157, u158, u159, u160, u161, u162, u163, u164, u165, u166, u167, u168, u169, u170, u171, u172, u173, u174, u175, u176, u177, u178, u179, u180, u181, u182, u183, u184, u185, u186, u187, u188, u189, u190, u191, u192, u193, u194, u195, u196, u197, u198, u199, u200, u201, u202, u203, u204, u205, u206, u207, u208, u209, u210, u211, u212, u213, u214, u215, u216, u217, u218, u219, u220, u221, u222, u223, u224, u225, u226, u227, u228, u229, u230, u231, u232, u233, u234, u235, u236, u237, u238, u239, u240, u241, u242, u243, u244, u245, u246, u247, u248, u249, u250, u251, u252, u253, u254, u255, u256, u257, u258, u259, u260, u261, u262, u263, u264, u265, u266, u267, u268, u269, u270, u271, u272, u273, u274, u275, u276, u277, u278, u279, u280, u281, u282, u283, u284, u285, u286, u287, u288, u289, u290, u291, u292, u293, u294, u295, u296, u297, u298, u299, u300, u301, u302, u303, u304, u305, u306, u307, u308, u309, u310, u311, u312, u313, u314, u315, u316, u317, u318, u319, u320, u321, u322, u323, u324, u325, u326, u327, u328, u329, u330, u331, u332, u333, u334, u335, u336, u337, u338, u339, u340, u341, u342, u343, u344, u345, u346, u347, u348, u349, u350, u351, u352, u353, u354, u355, u356, u357, u358, u359, u360, u361, u362, u363, u364, u365, u366, u367, u368, u369, u370, u371, u372, u373, u374, u375, u376, u377, u378, u379, u380, u381, u382, u383, u384, u385, u386, u387, u388, u389, u390, u391, u392, u393, u394, u395, u396, u397, u398, u399, u400, u401, u402, u403, u404, u405, u406, u407, u408, u409, u410, u411, u412, u413, u414, u415, u416, u417, u418, u419, u420, u421, u422, u423, u424, u425, u426, u427, u428, u429, u430, u431, u432, u433, u434, u435, u436, u437, u438, u439, u440, u441, u442, u443, u444, u445, u446, u447, u448, u449, u450, u451, u452, u453, u454, u455, u456, u457, u458, u459, u460, u461, u462, u463, u464, u465, u466, u467, u468, u469, u470, u471, u472, u473, u474, u475, u476, u477, u478, u479, u480, u481, u482, u483, u484, u485, u486, u487, u488, u489, u490, u491, u492, u493, u494, u495, u496, u497, u498, u499, u500, u501, u502, u503, u504, u505, u506, u507, u508, u509, u510, u511, u512, u513, u514, u515, u516, u517, u518, u519, u520, u521, u522, u523, u524, u525, u526, u527, u528, u529, u530, u531, u532, u533, u534, u535, u536, u537, u538, u539, u540, u541, u542, u543, u544, u545, u546, u547, u548, u549, u550, u551, u552, u553, u554, u555, u556, u557, u558, u559, u560, u561, u562, u563, u564, u565, u566, u567, u568, u569, u570, u571, u572, u573, u574, u575, u576, u577, u578, u579, u580, u581, u582, u583, u584, u585, u586, u587, u588, u589, u590, u591, u592, u593, u594, u595, u596, u597, u598, u599, u600, u601, u602, u603, u604, u605, u606, u607, u608, u609, u610, u611, u612, u613], defers := [] } Y := by
  have HK : Hid _ := hK
  obtain ⟨D, ⟨es, clock, hmb, r⟩, h1, h2⟩ := hm
  have HM : Hid (Y.drew.heap[mb]? = some (.map es clock)) := hmb
  have HMF : Hid (∀ W', W'.heap[Y.heap.size]? = some (.map es clock) → mp W' Y.heap.size n c f) := fun W' e => ⟨D, ⟨es, clock, e, r⟩, h1, h2⟩
  have HA : Hid (Y.heap[pb]? = some (.cells #[.int .u64 tp.n, .int .i64 tp.s, .pointer none] 48)) := hA
  have HB : Hid (Y.heap[nb]? = some (.cells #[.int .u64 tn.n, .int .i64 tn.s, .pointer none] 48)) := hB
  have HAL : Hid (pb < Y.heap.size) := (Array.getElem?_eq_some_iff.1 hA).1
  have HBL : Hid (nb < Y.heap.size) := (Array.getElem?_eq_some_iff.1 hB).1
  have HPM : Hid (IntKind.i64.wrap pm = pm) := by simp [IntKind.wrap, IntKind.bits, IntKind.signed, Hid]; omega
  clear hK hmb r h1 h2 hA hB
  conv => arg 2; whnf
  refine wp_region_ls (C82 Y (.map es clock) (.cells #[.float .f64 4652007308841189376, .nilFunc, .float .f64 (floatOfInt .f64 avg), .bool true, .bool false, .map (some Y.heap.size), .int .i64 sn, .int .i64 pm, .int .u64 tp.n, .int .i64 tp.s, .pointer none, .int .u64 tn.n, .int .i64 tn.s, .pointer none, .bool lv, .int .i64 byes] 58)) (psi82 Y.heap.size mb avg sn pm byes tp tn lv) [] [52, 299, 300, 301, 302, 303, 304, 305, 306, 307, 308, 309, 310, 311] mixed ?h0 (by kernel_rfl) (fun _ h => by cases h) (by kernel_rfl) (by kernel_rfl) (by kernel_rfl) ?each ?fin
  case h0 =>
    intro ls h
    exact ⟨by simp [h], fun e => (by rw [h] at e; cases e), fun e => (by rw [h] at e; cases e)⟩
  case each =>
    simp only [List.zipIdx_cons, List.zipIdx_nil, List.forall_mem_cons, Nat.zero_add, Nat.reduceAdd]
    refine ⟨?_, ?_, ?_, ?_, ?_, ?_, ?_, ?_, ?_, ?_, ?_, ?_, ?_, ?_, fun _ h => by cases h⟩
    · intro ls a w1 hi hl hC hz hs hn
      have h0' : a.tmps.getD 2 undef = .int .u16 avg := hs 2 (by kernel_rfl)
      have HC : Hid _ := hC
      clear hs hn hC hl hz hi
      unfold Oper.wp
      simp only [execOp, Act.eval, h0']
      exact ⟨_, rfl, fun t ht => by cases ht; rfl, HC.out.skip 0 (by decide) (by decide) (by decide)⟩
    · intro ls a w1 hi hl hC hz hs hn
      have h0' : a.tmps.getD 299 undef = .int .u16 avg := hn 299 (by kernel_rfl)
      have HC : Hid _ := hC
      clear hs hn hC hl hz hi
      unfold Oper.wp
      simp only [execOp, Act.eval, h0']
      go_simp
      exact ⟨_, rfl, rfl, HC.out.skip 1 (by decide) (by decide) (by decide)⟩
    · intro ls a w1 hi hl hC hz hs hn
      have h0' : a.tmps.getD 37 undef = .map (some mb) := hs 37 (by kernel_rfl)
      have HC : Hid _ := hC
      clear hs hn hC hl hz hi
      unfold Oper.wp
      simp only [execOp, Act.eval, h0']
      exact ⟨_, rfl, fun t ht => by cases ht; rfl, HC.out.skip 2 (by decide) (by decide) (by decide)⟩
    · intro ls a w1 hi hl hC hz hs hn
      have h0' : a.tmps.getD 301 undef = .map (some mb) := hn 301 (by kernel_rfl)
      have HC : Hid _ := hC
      have HI : Hid (ls 3 = false) := hi
      clear hs hn hC hl hz hi
      unfold Oper.wp
      simp only [execOp, Act.eval, h0']
      go_simp
      have hw := HC.out.c0 HI.out
      subst hw
      refine (mclone_raw mb es clock _ HM.out).mono ?_
      rintro e w2 ⟨rfl, rfl⟩
      exact ⟨_, rfl, rfl, HC.out.toM HI.out⟩
    · intro ls a w1 hi hl hC hz hs hn
      have h0' : a.tmps.getD 44 undef = .int .i64 sn := hs 44 (by kernel_rfl)
      have HC : Hid _ := hC
      clear hs hn hC hl hz hi
      unfold Oper.wp
      simp only [execOp, Act.eval, h0']
      exact ⟨_, rfl, fun t ht => by cases ht; rfl, HC.out.skip 4 (by decide) (by decide) (by decide)⟩
    · intro ls a w1 hi hl hC hz hs hn
      have h0' : a.tmps.getD 3 undef = .int .u8 pm := hs 3 (by kernel_rfl)
      have HC : Hid _ := hC
      clear hs hn hC hl hz hi
      unfold Oper.wp
      simp only [execOp, Act.eval, h0']
      exact ⟨_, rfl, fun t ht => by cases ht; rfl, HC.out.skip 5 (by decide) (by decide) (by decide)⟩
    · intro ls a w1 hi hl hC hz hs hn
      have h0' : a.tmps.getD 304 undef = .int .u8 pm := hn 304 (by kernel_rfl)
      have HC : Hid _ := hC
      have hE := HPM.out
      clear hs hn hC hl hz hi
      unfold Oper.wp
      simp only [execOp, Act.eval, h0']
      go_simp
      exact ⟨_, rfl, rfl, HC.out.skip 6 (by decide) (by decide) (by decide)⟩
    · intro ls a w1 hi hl hC hz hs hn
      have h0' : a.tmps.getD 49 undef = .pointer (some ⟨pb, 0, none⟩) := hs 49 (by kernel_rfl)
      have HC : Hid _ := hC
      have hc0 : w1.cell? ⟨pb, 0, none⟩ = some (.int .u64 tp.n) := cell_of ((hC.bel.block pb HAL.out).trans HA.out)
      have hc1 : w1.cell? ⟨pb, 1, none⟩ = some (.int .i64 tp.s) := cell_of ((hC.bel.block pb HAL.out).trans HA.out)
      have hc2 : w1.cell? ⟨pb, 2, none⟩ = some (.pointer none) := cell_of ((hC.bel.block pb HAL.out).trans HA.out)
      clear hs hn hC hl hz hi
      unfold Oper.wp
      simp only [execOp, Act.eval, h0']
      go_simp
      exact ⟨_, rfl, rfl, HC.out.skip 7 (by decide) (by decide) (by decide)⟩
    · intro ls a w1 hi hl hC hz hs hn
      have h0' : a.tmps.getD 50 undef = .pointer (some ⟨nb, 0, none⟩) := hs 50 (by kernel_rfl)
      have HC : Hid _ := hC
      have hc0 : w1.cell? ⟨nb, 0, none⟩ = some (.int .u64 tn.n) := cell_of ((hC.bel.block nb HBL.out).trans HB.out)
      have hc1 : w1.cell? ⟨nb, 1, none⟩ = some (.int .i64 tn.s) := cell_of ((hC.bel.block nb HBL.out).trans HB.out)
      have hc2 : w1.cell? ⟨nb, 2, none⟩ = some (.pointer none) := cell_of ((hC.bel.block nb HBL.out).trans HB.out)
      clear hs hn hC hl hz hi
      unfold Oper.wp
      simp only [execOp, Act.eval, h0']
      go_simp
      exact ⟨_, rfl, rfl, HC.out.skip 8 (by decide) (by decide) (by decide)⟩
    · intro ls a w1 hi hl hC hz hs hn
      have h0' : a.tmps.getD 0 undef = .bool lv := hs 0 (by kernel_rfl)
      have HC : Hid _ := hC
      clear hs hn hC hl hz hi
      unfold Oper.wp
      simp only [execOp, Act.eval, h0']
      exact ⟨_, rfl, fun t ht => by cases ht; rfl, HC.out.skip 9 (by decide) (by decide) (by decide)⟩
    · intro ls a w1 hi hl hC hz hs hn
      have h0' : a.tmps.getD 1 undef = .int .i64 byes := hs 1 (by kernel_rfl)
      have HC : Hid _ := hC
      clear hs hn hC hl hz hi
      unfold Oper.wp
      simp only [execOp, Act.eval, h0']
      exact ⟨_, rfl, fun t ht => by cases ht; rfl, HC.out.skip 10 (by decide) (by decide) (by decide)⟩
    · intro ls a w1 hi hl hC hz hs hn
      have h0' : a.tmps.getD 300 undef = .float .f64 (floatOfInt .f64 avg) := hn 300 (by kernel_rfl)
      have h1' : a.tmps.getD 302 undef = .map (some Y.heap.size) := hn 302 (by kernel_rfl)
      have h2' : a.tmps.getD 303 undef = .int .i64 sn := hn 303 (by kernel_rfl)
      have h3' : a.tmps.getD 305 undef = .int .i64 pm := hn 305 (by kernel_rfl)
      have h4' : a.tmps.getD 306 undef = tv tp.n tp.s := hn 306 (by kernel_rfl)
      have h5' : a.tmps.getD 307 undef = tv tn.n tn.s := hn 307 (by kernel_rfl)
      have h6' : a.tmps.getD 308 undef = .bool lv := hn 308 (by kernel_rfl)
      have h7' : a.tmps.getD 309 undef = .int .i64 byes := hn 309 (by kernel_rfl)
      have HC : Hid _ := hC
      unfold tv at h4' h5'
      have HL3 : Hid (ls 3 = true) := hl 3 (by kernel_rfl)
      have k0 := h0'
      have k1 := h1'
      have k2 := h2'
      have k3 := h3'
      have k4 := h4'
      have k5 := h5'
      have k6 := h6'
      have k7 := h7'
      rw [Array.getD_eq_getD_getElem?] at k0 k1 k2 k3 k4 k5 k6 k7
      clear hs hn hC hl hz hi
      unfold Oper.wp
      simp only [execOp, Act.eval, h0', h1', h2', h3', h4', h5', h6', h7']
      go_simp
      exact ⟨_, rfl, rfl, HC.out.skip11 HL3.out⟩
    · intro ls a w1 hi hl hC hz hs hn
      have h0' : a.tmps.getD 310 undef = .agg #[.float .f64 4652007308841189376, .nilFunc, .float .f64 (floatOfInt .f64 avg), .bool true, .bool false, .map (some Y.heap.size), .int .i64 sn, .int .i64 pm, .int .u64 tp.n, .int .i64 tp.s, .pointer none, .int .u64 tn.n, .int .i64 tn.s, .pointer none, .bool lv, .int .i64 byes] := hn 310 (by kernel_rfl)
      have HC : Hid _ := hC
      have l3 : ls 3 = true := hC.imp2 (hl 11 (by kernel_rfl))
      have HI : Hid (ls 12 = false) := hi
      have HL3 : Hid (ls 3 = true) := l3
      clear l3
      clear hs hn hC hl hz hi
      unfold Oper.wp
      simp only [execOp, Act.eval, h0']
      go_simp
      have hw := HC.out.c1 HL3.out HI.out
      subst hw
      refine ⟨_, rfl, ?_, HC.out.toB HL3.out HI.out⟩
      show Value.pointer (some ⟨(Y.drew.alloc (.map es clock)).heap.size, 0, none⟩) = .pointer (some ⟨Y.heap.size + 1, 0, none⟩)
      rw [World.size_alloc]
      rfl
    · intro ls a w1 hi hl hC hz hs hn
      have h0' : a.tmps.getD 311 undef = .pointer (some ⟨Y.heap.size + 1, 0, none⟩) := hn 311 (by kernel_rfl)
      have HC : Hid _ := hC
      clear hs hn hC hl hz hi
      unfold Oper.wp
      simp only [execOp, Act.eval, h0']
      exact ⟨_, rfl, fun t ht => by cases ht; rfl, HC.out.skip 13 (by decide) (by decide) (by decide)⟩
  case fin =>
    intro f0 ls a1 w1 hls hC hf hp
    have l12 := hls 12 (by simp)
    have hbl := hC.bel
    have hw := hC.c
    rw [if_pos l12] at hw
    have e2 : f0 52 = .pointer (some ⟨Y.heap.size + 1, 0, none⟩) := hp 52 (by kernel_rfl)
    clear hC hp hf
    simp only [List.foldl_cons, List.foldl_nil, List.setIfInBounds_toArray, List.set_cons_succ, List.set_cons_zero, e2]
    refine HK.out _ _ _ _ _ _ _ _ _ _ _ _ _ w1 (HMF.out w1 ?_) ?_ hbl
    · rw [hw]
      refine (Below.heap_alloc _ _ _ (by rw [World.size_alloc]; exact Nat.lt_succ_self _)).trans ?_
      exact (MapKept.heap_alloc Y.drew _).1
    · rw [hw]
      have := (MapKept.heap_alloc (Y.drew.alloc (.map es clock)) (.cells #[.float .f64 4652007308841189376, .nilFunc, .float .f64 (floatOfInt .f64 avg), .bool true, .bool false, .map (some Y.heap.size), .int .i64 sn, .int .i64 pm, .int .u64 tp.n, .int .i64 tp.s, .pointer none, .int .u64 tn.n, .int .i64 tn.s, .pointer none, .bool lv, .int .i64 byes] 58)).1
      have hz : (Y.drew.alloc (.map es clock)).heap.size = Y.heap.size + 1 := World.size_alloc _ _
      rw [hz] at this
      exact this
end Go.Proofs.YbulkdsruGreatDoor
