import Derived.Test.YbulkdsruGreatDoorL7a
import Derived.Test.YbulkdsruGreatDoorLl
import Derived.Test.YbulkdsruGreatDoorR139
namespace Go.Proofs.YbulkdsruGreatDoor
open Go.RowKit Go.Op
set_option linter.unusedVariables false
set_option linter.unusedSimpArgs false
noncomputable def psi142 (mm p : Nat) (now tn : Tm) : Nat → Value → Prop
  | 572 => fun v => v = tv now.n now.s
  | 573 => fun v => v = .float .f64 (fracF mm p)
  | 574 => fun v => v = tv tn.n tn.s
  | 575 => fun v => v = tv now.n now.s
  | 576 => fun v => v = .int .i64 (Tm.sub tn now)
  | 577 => fun v => v = .float .f64 (secF (Tm.sub tn now))
  | 578 => fun v => v = .float .f64 (fop .mul (fracF mm p) (secF (Tm.sub tn now)))
  | 579 => fun v => v = .int .i64 (closer mm p (Tm.sub tn now))
  | 580 => fun v => v = tv (now.add (closer mm p (Tm.sub tn now))).n (now.add (closer mm p (Tm.sub tn now))).s
  | _ => fun _ => True
set_option maxRecDepth 100000 in
set_option maxHeartbeats 2000000 in
theorem reg142 (nb xb qb mm p : Nat) (now tn t0 : Tm) (Y : World) (hN : Y.heap[nb]? = some (.cells #[.int .u64 now.n, .int .i64 now.s, .pointer none] 48)) (hX : Y.heap[xb]? = some (.cells #[.int .u64 tn.n, .int .i64 tn.s, .pointer none] 48)) (hQ : Y.heap[qb]? = some (.cells #[.int .u64 t0.n, .int .i64 t0.s, .pointer none] 48)) (hp : p ≤ 255) (hmp : mm < p) (hno : now.ok) (hxo : tn.ok)
    (Q : Exit → Act → World → Prop) {u0 u1 u2 u3 u4 u5 u6 u7 u8 u9 u10 u11 u12 u13 u14 u15 u16 u17 u18 u19 u20 u21 u22 u23 u24 u25 u26 u27 u28 u29 u30 u31 u32 u33 u34 u35 u36 u37 u38 u39 u40 u41 u42 u43 u44 u45 u46 u47 u48 u49 u52 u53 u54 u55 u56 u57 u58 u59 u60 u61 u62 u63 u64 u65 u66 u67 u68 u69 u70 u72 u74 u75 u76 u77 u78 u79 u80 u81 u82 u83 u84 u85 u86 u87 u88 u89 u90 u91 u92 u93 u94 u95 u96 u97 u98 u99 u100 u101 u102 u103 u104 u105 u106 u107 u108 u109 u110 u111 u112 u113 u114 u115 u116 u117 u118 u119 u120 u121 u122 u123 u124 u125 u126 u127 u128 u129 u130 u131 u132 u133 u134 u135 u136 u137 u138 u139 u140 u141 u142 u143 u144 u145 u146 u147 u148 u149 u150 u151 u152 u153 u154 u155 u156 u157 u158 u159 u160 u161 u162 u163 u164 u165 u166 u167 u168 u169 u170 u171 u172 u173 u174 u175 u176 u177 u178 u179 u180 u181 u182 u183 u184 u185 u186 u187 u188 u189 u190 u191 u192 u193 u194 u195 u196 u197 u198 u199 u200 u201 u202 u203 u204 u205 u206 u207 u208 u209 u210 u211 u212 u213 u214 u215 u216 u217 u218 u219 u220 u221 u222 u223 u224 u225 u226 u227 u228 u229 u230 u231 u232 u233 u234 u235 u236 u237 u238 u239 u240 u241 u242 u243 u244 u245 u246 u247 u248 u249 u250 u251 u252 u253 u254 u255 u256 u257 u258 u259 u260 u261 u262 u263 u264 u265 u266 u267 u268 u269 u270 u271 u272 u273 u274 u275 u276 u277 u278 u279 u280 u281 u282 u283 u284 u285 u286 u287 u288 u289 u290 u291 u292 u293 u294 u295 u296 u297 u298 u299 u300 u301 u302 u303 u304 u305 u306 u307 u308 u309 u310 u311 u312 u313 u314 u315 u316 u317 u318 u319 u320 u321 u322 u323 u324 u325 u326 u327 u328 u329 u330 u331 u332 u333 u334 u335 u336 u337 u338 u339 u340 u341 u342 u343 u344 u345 u346 u347 u348 u349 u350 u351 u352 u353 u354 u355 u356 u357 u358 u359 u360 u361 u362 u363 u364 u365 u366 u367 u368 u369 u370 u371 u372 u373 u374 u375 u376 u377 u378 u379 u380 u381 u382 u383 u384 u385 u386 u387 u388 u389 u390 u391 u392 u393 u394 u395 u396 u397 u398 u399 u400 u401 u402 u403 u404 u405 u406 u407 u408 u409 u410 u411 u412 u413 u414 u415 u416 u417 u418 u419 u420 u421 u422 u423 u424 u425 u426 u427 u428 u429 u430 u431 u432 u433 u434 u435 u436 u437 u438 u439 u440 u441 u442 u443 u444 u445 u446 u447 u448 u449 u450 u451 u452 u453 u454 u455 u456 u457 u458 u459 u460 u461 u462 u463 u464 u465 u466 u467 u468 u469 u470 u471 u472 u473 u474 u475 u476 u477 u478 u479 u480 u481 u482 u483 u484 u485 u486 u487 u488 u489 u490 u491 u492 u493 u494 u495 u496 u497 u498 u499 u500 u501 u502 u503 u504 u505 u506 u507 u508 u509 u510 u511 u512 u513 u514 u515 u516 u517 u518 u519 u520 u521 u522 u523 u524 u525 u526 u527 u528 u529 u530 u531 u532 u533 u534 u535 u536 u537 u538 u539 u540 u541 u542 u543 u544 u545 u546 u547 u548 u549 u550 u551 u552 u553 u554 u555 u556 u557 u558 u559 u560 u561 u562 u563 u564 u565 u566 u567 u568 u569 u570 u571 u572 u573 u574 u575 u576 u577 u578 u579 u580 u581 u582 u583 u584 u585 u586 u587 u588 u589 u590 u591 u592 u593 u594 u595 u596 u597 u598 u599 u600 u601 u602 u603 u604 u605 u606 u607 u608 u609 u610 u611 u612 u613 : Value}
    (hK : ∀ (x572 x573 x574 x575 x576 x577 x578 x579 x580 : Value) (W' : World), W'.heap[qb]? = some (.cells #[.int .u64 (now.add (closer mm p (Tm.sub tn now))).n, .int .i64 (now.add (closer mm p (Tm.sub tn now))).s, .pointer none] 48) → Two qb qb Y W' → Q .normal { tmps := #[u0, u1, u2, u3, u4, u5, u6, u7, u8, u9, u10, u11, u12, u13, u14, u15, u16, u17, u18, u19, u20, u21, u22, u23, u24, u25, u26, u27, u28, u29, u30, u31, u32, u33, u34, u35, u36, u37, u38, u39, u40, u41, u42, u43, u44, u45, u46, u47, u48, u49, .pointer (some ⟨xb, 0, none⟩), .pointer (some ⟨nb, 0, none⟩), u52, u53, u54, u55, u56, u57, u58, u59, u60, u61, u62, u63, u64, u65, u66, u67, u68, u69, u70, .pointer (some ⟨qb, 0, none⟩), u72, .float .f64 (fracF mm p), u74, u75, u76, u77, u78, u79, u80, u81, u82, u83, u84, u85, u86, u87, u88, u89, u90, u91, u92, u93, u94, u95, u96, u97, u98, u99, u100, u101, u102, u103, u104, u105, u106, u107, u108, u109, u110, u111, u112, u113, u114, u115, u116, u117, u118, u119, u120, u121, u122, u123, u124, u125, u126, u127, u128, u129, u130, u131, u132, u133, u134, u135, u136, u137, u138, u139, u140, u141, u142, u143, u144, u145, u146, u147, u148, u149, u150, u151, u152, u153, u154, u155, u156, u157, u158, u159, u160, u161, u162, u163, u164, u165, u166, u167, u168, u169, u170, u171, u172, u173, u174, u175, u176, u177, u178, u179, u180, u181, u182, u183, u184, u185, u186, u187, u188, u189, u190, u191, u192, u193, u194, u195, u196, u197, u198, u199, u200, u201, u202, u203, u204, u205, u206, u207, u208, u209, u210, u211, u212, u213, u214, u215, u216, u217, u218, u219, u220, u221, u222, u223, u224, u225, u226, u227, u228, u229, u230, u231, u232, u233, u234, u235, u236, u237, u238, u239, u240, u241, u242, u243, u244, u245, u246, u247, u248, u249, u250, u251, u252, u253, u254, u255, u256, u257, u258, u259, u260, u261, u262, u263, u264, u265, u266, u267, u268, u269, u270, u271, u272, u273, u274, u275, u276, u277, u278, u279, u280, u281, u282, u283, u284, u285, u286, u287, u288, u289, u290, u291, u292, u293, u294, u295, u296, u297, u298, u299, u300, u301, u302, u303, u304, u305, u306, u307, u308, u309, u310, u311, u312, u313, u314, u315, u316, u317, u318, u319, u320, u321, u322, u323, u324, u325, u326, u327, u328, u329, u330, u331, u332, u333, u334, u335, u336, u337, u338, u339, u340, u341, u342, u343, u344, u345, u346, u347, u348, u349, u350, u351, u352, u353, u354, u355, u356, u357, u358, u359, u360, u361, u362, u363, u364, u365, u366, u367, u368, u369, u370, u371, u372, u373, u374, u375, u376, u377, u378, u379, u380, u381, u382, u383, u384, u385, u386, u387, u388, u389, u390, u391, u392, u393, u394, u395, u396, u397, u398, u399, u400, u401, u402, u403, u404, u405, u406, u407, u408, u409, u410, u411, u412, u413, u414, u415, u416, u417, u418, u419, u420, u421, u422, u423, u424, u425, u426, u427, u428, u429, u430, u431, u432, u433, u434, u435, u436, u437, u438, u439, u440, u441, u442, u443, u444, u445, u446, u447, u448, u449, u450, u451, u452, u453, u454, u455, u456, u457, u458, u459, u460, u461, u462, u463, u464, u465, u466, u467, u468, u469, u470, u471, u472, u473, u474, u475, u476, u477, u478, u479, u480, u481, u482, u483, u484, u485, u486, u487, u488, u489, u490, u491, u492, u493, u494, u495, u496, u497, u498, u499, u500, u501, u502, u503, u504, u505, u506, u507, u508, u509, u510, u511, u512, u513, u514, u515, u516, u517, u518, u519, u520, u521, u522, u523, u524, u525, u526, u527, u528, u529, u530, u531, u532, u533, u534, u535, u536, u537, u538, u539, u540, u541, u542, u543, u544, u545, u546, u547, u548, u549, u550, u551, u552, u553, u554, u555, u556, u557, u558, u559, u560, u561, u562, u563, u564, u565, u566, u567, u568, u569, u570, u571, x572, x573, x574, x575, x576, x577, x578, x579, x580, u581, u582, u583, u584, u585, u586, u587, u588, u589, u590, u591, u592, u593, u594, u595, u596, u597, u598, u599, u600, u601, u602, u603, u604, u605, u606, u607, u608, u609, u610, u611, u612, u613], defers := [] } W') :
    Code.wp Ybaz.prog (lawReg 142) Q { tmps := #[u0, u1, u2, u3, u4, u5, u6, u7, u8, u9, u10, u11, u12, u13, u14, u15, u16, u17, u18, u19, u20, u21, u22, u23, u24, u25, u26, u27, u28, u29, u30, u31, u32, u33, u34, u35, u36, u37, u38, u39, u40, u41, u42, u43, u44, u45, u46, u47, u48, u49, .pointer (some ⟨xb, 0, none⟩), .pointer (some ⟨nb, 0, none⟩), u52, u53, u54, u55, u56, u57, u58, u59, u60, u61, u62, u63, u64, u65, u66, u67, u68, u69, u70, .pointer (some ⟨qb, 0, none⟩), u72, .float .f64 (fracF mm p), u74, u75, u76, u77, u78, u79, u80, u81, u82, u83, u84, u85, u86, u87, u88, u89, u90, u91, u92, u93, u94, u95, u96, u97, u98, u99, u100, u101, u102, u103, u104, u105, u106, u107, u108, u109, u110, u111, u112, u113, u114, u115, u116, u117, u118, u119, u120, u121, u122, u123, u124, u125, u126, u127, u128, u129, u130, u131, u132, u133, u134, u135, u136, u137, u138, u139, u140, u141, u142, u143, u144, u145, u146, u147, u148, u149, u150, u151, u152, u153, u154, u155, u156, u157, u158, u159, u160, u161, u162, u163, u164, u165, u166, u167, u168, u169, u170, u171, u172, u173, u174, u175, u176, u177, u178, u179, u180, u181, u182, u183, u184, u185, u186, u187, u188, u189, u190, u191, u192, u193, u194, u195, u196, u197, u198, u199, u200, u201, u202, u203, u204, u205, u206, u207, u208, u209, u210, u211, u212, u213, u214, u215, u216, u217, u218, u219, u220, u221, u222, u223, u224, u225, u226, u227, u228, u229, u230, u231, u232, u233, u234, u235, u236, u237, u238, u239, u240, u241, u242, u243, u244, u245, u246, u247, u248, u249, u250, u251, u252, u253, u254, u255, u256, u257, u258, u259, u260, u261, u262, u263, u264, u265, u266, u267, u268, u269, u270, u271, u272, u273, u274, u275, u276, u277, u278, u279, u280, u281, u282, u283, u284, u285, u286, u287, u288, u289, u290, u291, u292, u293, u294, u295, u296, u297, u298, u299, u300, u301, u302, u303, u304, u305, u306, u307, u308, u309, u310, u311, u312, u313, u314, u315, u316, u317, u318, u319, u320, u321, u322, u323, u324, u325, u326, u327, u328, u329, u330, u331, u332, u333, u334, u335, u336, u337, u338, u339, u340, u341, u342, u343, u344, u345, u346, u347, u348, u349, u350, u351, u352, u353, u354, u355, u356, u357, u358, u359, u360, u361, u362, u363, u364, u365, u366, u367, u368, u369, u370, u371, u372, u373, u374, u375, u376, u377, u378, u379, u380, u381, u382, u383, u384, u385, u386, u387, u388, u389, u390, u391, u392, u393, u394, u395, u396, u397, u398, u399, u400, u401, u402, u403, u404, u405, u406, u407, u408, u409, u410, u411, u412, u413, u414, u415, u416, u417, u418, u419, u420, u421, u422, u423, u424, u425, u426, u427, u428, u429, u430, u431, u432, u433, u434, u435, u436, u437, u438, u439, u440, u441, u442, u443, u444, u445, u446, u447, u448, u449, u450, u451, u452, u453, u454, u455, u456, u457, u458, u459, u460, u461, u462, u463, u464, u465, u466, u467, u468, u469, u470, u471, u472, u473, u474, u475, u476, u477, u478, u479, u480, u481, u482, u483, u484, u485, u486, u487, u488, u489, u490, u491, u492, u493, u494, u495, u496, u497, u498, u499, u500, u501, u502, u503, u504, u505, u506, u507, u508, u509, u510, u511, u512, u513, u514, u515, u516, u517, u518, u519, u520, u521, u522, u523, u524, u525, u526, u527, u528, u529, u530, u531, u532, u533, u534, u535, u536, u537, u538, u539, u540, u541, u542, u543, u544, u545, u546, u547, u548, u549, u550, u551, u552, u553, u554, u555, u556, u557, u558, u559, u560, u561, u562, u563, u564, u565, u566, u567, u568, u569, u570, u571, u572, u573, u574, u575, u576, u577, u578, u579, u580, u581, u582, u583, u584, u585, u586, u587, u588, u589, u590, u591, u592, u593, u594, u595, u596, u597, u598, u599, u600, u601, u602, u603, u604, u605, u606, u607, u608, u609, u610, u611, u612, u613], defers := [] } Y := by
  have HK : Hid _ := hK
  have HN : Hid (Y.heap[nb]? = some (.cells #[.int .u64 now.n, .int .i64 now.s, .pointer none] 48)) := hN
  have HX : Hid (Y.heap[xb]? = some (.cells #[.int .u64 tn.n, .int .i64 tn.s, .pointer none] 48)) := hX
  have HQ : Hid (Y.heap[qb]? = some (.cells #[.int .u64 t0.n, .int .i64 t0.s, .pointer none] 48)) := hQ
  have HNL : Hid (nb < Y.heap.size) := (Array.getElem?_eq_some_iff.1 hN).1
  have HXL : Hid (xb < Y.heap.size) := (Array.getElem?_eq_some_iff.1 hX).1
  have HQL : Hid (qb < Y.heap.size) := (Array.getElem?_eq_some_iff.1 hQ).1
  have HNO : Hid now.ok := hno
  have HXO : Hid tn.ok := hxo
  have SB : Hid (-9223372036854775808 ≤ Tm.sub tn now ∧ Tm.sub tn now ≤ 9223372036854775807) := subF_bounds _ _ _ _
  have TL : Hid _ := time_le (d := Tm.sub tn now) hp hmp SB.out.1 SB.out.2
  have PN : Hid _ := (prod_bits (d := Tm.sub tn now) hp hmp SB.out.1 SB.out.2).2
  have ME := det (prod_bits (d := Tm.sub tn now) hp hmp SB.out.1 SB.out.2).1
  have DR : Hid (-9223372036854775808 ≤ closer mm p (Tm.sub tn now) ∧ closer mm p (Tm.sub tn now) ≤ 9223372036854775807) := durD_range TL.out
  clear hK hN hX hQ hp hmp hno hxo
  conv => arg 2; whnf
  refine wp_region_put (fun w' => Below Y.heap.size Y w') (fun w' => ∃ w1, Below Y.heap.size Y w1 ∧ w' = set3 w1 qb 0 (now.add (closer mm p (Tm.sub tn now)))) (psi142 mm p now tn) 9 [572, 573, 574, 575, 576, 577, 578, 579, 580] mixed ?h0 (by kernel_rfl) (by kernel_rfl) (by kernel_rfl) (by kernel_rfl) (by kernel_rfl) (by kernel_rfl) ?each ?last ?fin
  case h0 => exact (Below.refl _ _).drew
  case each =>
    simp only [List.dropLast, List.forall_mem_cons]
    refine ⟨?_, ?_, ?_, ?_, ?_, ?_, ?_, ?_, ?_, fun _ h => by cases h⟩
    · intro a w1 hC hs hn
      have h0' : a.tmps.getD 51 undef = .pointer (some ⟨nb, 0, none⟩) := hs 51 (by kernel_rfl)
      have HC : Hid _ := hC
      have hc0 : w1.cell? ⟨nb, 0, none⟩ = some (.int .u64 now.n) := cell_of ((hC.block nb HNL.out).trans HN.out)
      have hc1 : w1.cell? ⟨nb, 1, none⟩ = some (.int .i64 now.s) := cell_of ((hC.block nb HNL.out).trans HN.out)
      have hc2 : w1.cell? ⟨nb, 2, none⟩ = some (.pointer none) := cell_of ((hC.block nb HNL.out).trans HN.out)
      clear hs hn hC
      unfold Oper.wp
      simp only [execOp, Act.eval, h0']
      go_simp
      exact ⟨_, rfl, rfl, HC.out⟩
    · intro a w1 hC hs hn
      have h0' : a.tmps.getD 73 undef = .float .f64 (fracF mm p) := hs 73 (by kernel_rfl)
      have HC : Hid _ := hC
      clear hs hn hC
      unfold Oper.wp
      simp only [execOp, Act.eval, h0']
      exact ⟨_, rfl, fun t ht => by cases ht; rfl, HC.out⟩
    · intro a w1 hC hs hn
      have h0' : a.tmps.getD 50 undef = .pointer (some ⟨xb, 0, none⟩) := hs 50 (by kernel_rfl)
      have HC : Hid _ := hC
      have hc0 : w1.cell? ⟨xb, 0, none⟩ = some (.int .u64 tn.n) := cell_of ((hC.block xb HXL.out).trans HX.out)
      have hc1 : w1.cell? ⟨xb, 1, none⟩ = some (.int .i64 tn.s) := cell_of ((hC.block xb HXL.out).trans HX.out)
      have hc2 : w1.cell? ⟨xb, 2, none⟩ = some (.pointer none) := cell_of ((hC.block xb HXL.out).trans HX.out)
      clear hs hn hC
      unfold Oper.wp
      simp only [execOp, Act.eval, h0']
      go_simp
      exact ⟨_, rfl, rfl, HC.out⟩
    · intro a w1 hC hs hn
      have h0' : a.tmps.getD 51 undef = .pointer (some ⟨nb, 0, none⟩) := hs 51 (by kernel_rfl)
      have HC : Hid _ := hC
      have hc0 : w1.cell? ⟨nb, 0, none⟩ = some (.int .u64 now.n) := cell_of ((hC.block nb HNL.out).trans HN.out)
      have hc1 : w1.cell? ⟨nb, 1, none⟩ = some (.int .i64 now.s) := cell_of ((hC.block nb HNL.out).trans HN.out)
      have hc2 : w1.cell? ⟨nb, 2, none⟩ = some (.pointer none) := cell_of ((hC.block nb HNL.out).trans HN.out)
      clear hs hn hC
      unfold Oper.wp
      simp only [execOp, Act.eval, h0']
      go_simp
      exact ⟨_, rfl, rfl, HC.out⟩
    · intro a w1 hC hs hn
      have h0' : a.tmps.getD 574 undef = tv tn.n tn.s := hn 574 (by kernel_rfl)
      have h1' : a.tmps.getD 575 undef = tv now.n now.s := hn 575 (by kernel_rfl)
      have HC : Hid _ := hC
      clear hs hn hC
      unfold Oper.wp
      simp only [execOp, Act.eval, h0', h1']
      go_simp
      refine (sub_any _ _ _ _ w1 HXO.out.1 HXO.out.2 HNO.out.1 HNO.out.2).mono ?_
      rintro e w2 ⟨rfl, hb⟩
      exact ⟨_, rfl, rfl, HC.out.trans (hb.mono HC.out.size)⟩
    · intro a w1 hC hs hn
      have h0' : a.tmps.getD 576 undef = .int .i64 (Tm.sub tn now) := hn 576 (by kernel_rfl)
      have HC : Hid _ := hC
      clear hs hn hC
      unfold Oper.wp
      simp only [execOp, Act.eval, h0']
      go_simp
      refine (sec_det _ w1 SB.out.1 SB.out.2).mono ?_
      rintro e w2 ⟨rfl, hb⟩
      exact ⟨_, rfl, rfl, HC.out.trans (hb.mono HC.out.size)⟩
    · intro a w1 hC hs hn
      have h0' : a.tmps.getD 573 undef = .float .f64 (fracF mm p) := hn 573 (by kernel_rfl)
      have h1' : a.tmps.getD 577 undef = .float .f64 (secF (Tm.sub tn now)) := hn 577 (by kernel_rfl)
      have HC : Hid _ := hC
      clear hs hn hC
      unfold Oper.wp
      simp only [execOp, Act.eval, h0', h1']
      go_simp
      exact ⟨_, rfl, rfl, HC.out⟩
    · intro a w1 hC hs hn
      have h0' : a.tmps.getD 578 undef = .float .f64 (fop .mul (fracF mm p) (secF (Tm.sub tn now))) := hn 578 (by kernel_rfl)
      have HC : Hid _ := hC
      clear hs hn hC
      unfold Oper.wp
      simp only [execOp, Act.eval, h0']
      go_simp
      refine (dur14 TL.out PN.out w1).mono ?_
      rintro e w2 ⟨rfl, hb⟩
      exact ⟨_, rfl, rfl, HC.out.trans (hb.mono HC.out.size)⟩
    · intro a w1 hC hs hn
      have h0' : a.tmps.getD 572 undef = tv now.n now.s := hn 572 (by kernel_rfl)
      have h1' : a.tmps.getD 579 undef = .int .i64 (closer mm p (Tm.sub tn now)) := hn 579 (by kernel_rfl)
      have HC : Hid _ := hC
      clear hs hn hC
      unfold Oper.wp
      simp only [execOp, Act.eval, h0', h1']
      go_simp
      refine (add_any _ _ _ w1 HNO.out.1 HNO.out.2 DR.out.1 DR.out.2).mono ?_
      rintro e w2 ⟨rfl, hb⟩
      exact ⟨_, rfl, rfl, HC.out.trans (hb.mono HC.out.size)⟩
  case last =>
    simp only [List.getLast?, List.getLast, Option.mem_def, Option.some.injEq]
    rintro o rfl
    · intro a w1 hC hs hn
      have h0' : a.tmps.getD 71 undef = .pointer (some ⟨qb, 0, none⟩) := hs 71 (by kernel_rfl)
      have h1' : a.tmps.getD 580 undef = tv (now.add (closer mm p (Tm.sub tn now))).n (now.add (closer mm p (Tm.sub tn now))).s := hn 580 (by kernel_rfl)
      have HC : Hid _ := hC
      have hbk := (hC.block qb HQL.out).trans HQ.out
      have hc0 := cell_of (i := 0) hbk
      have hc1 := cell_of (i := 1) hbk
      have hc2 := cell_of (i := 2) hbk
      have hf0 : w1.frozen? ⟨qb, 0, none⟩ = false := frozen_of hbk
      have hf1 : w1.frozen? ⟨qb, 1, none⟩ = false := frozen_of hbk
      have hf2 : w1.frozen? ⟨qb, 2, none⟩ = false := frozen_of hbk
      clear hbk
      unfold tv at h1'
      clear hs hn hC
      unfold Oper.wp
      simp only [execOp, Act.eval, h0', h1']
      go_simp
      exact ⟨w1, HC.out, rfl⟩
  case fin =>
    rintro f0 w1 ⟨w2, hb, rfl⟩ _
    simp only [List.foldl_cons, List.foldl_nil, List.setIfInBounds_toArray, List.set_cons_succ, List.set_cons_zero]
    refine HK.out _ _ _ _ _ _ _ _ _ _ ?_ ?_
    · exact set3_heap (i := 0) ((hb.block qb HQL.out).trans HQ.out) _
    · exact ⟨hb.os, hb.tape, hb.output, by rw [set3_size]; exact hb.size, fun k hk h1 h2 => (set3_other h1 _).trans (hb.block k hk)⟩

end Go.Proofs.YbulkdsruGreatDoor
