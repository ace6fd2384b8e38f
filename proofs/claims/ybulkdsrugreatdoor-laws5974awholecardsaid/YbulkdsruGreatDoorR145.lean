import Derived.Test.YbulkdsruGreatDoorL7a
import Derived.Test.YbulkdsruGreatDoorLl
import Derived.Test.YbulkdsruGreatDoorR139
namespace Go.Proofs.YbulkdsruGreatDoor
open Go.RowKit Go.Op
set_option linter.unusedVariables false
set_option linter.unusedSimpArgs false
noncomputable def psi145 (b : Nat) (S : StV) : Nat → Value → Prop
  | 592 => fun v => v = .pointer (some ⟨b, 0, none⟩)
  | 593 => fun v => v = .pointer (some ⟨b, 0, none⟩)
  | 594 => fun v => v = .pointer (some ⟨b, 7, none⟩)
  | 595 => fun v => v = .int .i64 S.pm
  | 596 => fun v => v = .int .i64 S.pm
  | 597 => fun v => v = .bool true
  | 598 => fun v => v = .bool true
  | 599 => fun v => v = .pointer (some ⟨b, 0, none⟩)
  | 600 => fun v => v = .pointer (some ⟨b, 0, none⟩)
  | 601 => fun v => v = .pointer (some ⟨b, 8, none⟩)
  | 602 => fun v => v = tv S.tp.n S.tp.s
  | 603 => fun v => v = tv S.tp.n S.tp.s
  | 604 => fun v => v = .bool true
  | 605 => fun v => v = .bool true
  | 606 => fun v => v = .bool true
  | 607 => fun v => v = .pointer (some ⟨b, 0, none⟩)
  | 608 => fun v => v = .pointer (some ⟨b, 0, none⟩)
  | 609 => fun v => v = .pointer (some ⟨b, 11, none⟩)
  | 610 => fun v => v = tv S.tn.n S.tn.s
  | 611 => fun v => v = tv S.tn.n S.tn.s
  | 612 => fun v => v = .bool true
  | 613 => fun v => v = .bool true
  | 22 => fun v => v = .bool true
  | _ => fun _ => True
set_option maxRecDepth 100000 in
set_option maxHeartbeats 2000000 in
theorem reg145 (b q0 q1 : Nat) (S : StV) (Y : World) (hS : Stt Y b S) (hA : Y.heap[q0]? = some (.cells #[.int .u64 S.tp.n, .int .i64 S.tp.s, .pointer none] 48)) (hB : Y.heap[q1]? = some (.cells #[.int .u64 S.tn.n, .int .i64 S.tn.s, .pointer none] 48)) (htp : S.tp.ok) (htn : S.tn.ok)
    (Q : Exit → Act → World → Prop) {u0 u1 u2 u3 u4 u5 u6 u7 u8 u9 u10 u11 u12 u13 u14 u15 u16 u17 u18 u19 u20 u21 u22 u23 u24 u25 u26 u27 u28 u29 u30 u31 u32 u33 u34 u35 u36 u37 u38 u39 u40 u41 u42 u43 u44 u45 u46 u47 u48 u49 u50 u51 u53 u54 u55 u56 u57 u58 u59 u60 u61 u62 u63 u64 u65 u66 u67 u68 u69 u73 u74 u75 u76 u77 u78 u79 u80 u81 u82 u83 u84 u85 u86 u87 u88 u89 u90 u91 u92 u93 u94 u95 u96 u97 u98 u99 u100 u101 u102 u103 u104 u105 u106 u107 u108 u109 u110 u111 u112 u113 u114 u115 u116 u117 u118 u119 u120 u121 u122 u123 u124 u125 u126 u127 u128 u129 u130 u131 u132 u133 u134 u135 u136 u137 u138 u139 u140 u141 u142 u143 u144 u145 u146 u147 u148 u149 u150 u151 u152 u153 u154 u155 u156 u157 u158 u159 u160 u161 u162 u163 u164 u165 u166 u167 u168 u169 u170 u171 u172 u173 u174 u175 u176 u177 u178 u179 u180 u181 u182 u183 u184 u185 u186 u187 u188 u189 u190 u191 u192 u193 u194 u195 u196 u197 u198 u199 u200 u201 u202 u203 u204 u205 u206 u207 u208 u209 u210 u211 u212 u213 u214 u215 u216 u217 u218 u219 u220 u221 u222 u223 u224 u225 u226 u227 u228 u229 u230 u231 u232 u233 u234 u235 u236 u237 u238 u239 u240 u241 u242 u243 u244 u245 u246 u247 u248 u249 u250 u251 u252 u253 u254 u255 u256 u257 u258 u259 u260 u261 u262 u263 u264 u265 u266 u267 u268 u269 u270 u271 u272 u273 u274 u275 u276 u277 u278 u279 u280 u281 u282 u283 u284 u285 u286 u287 u288 u289 u290 u291 u292 u293 u294 u295 u296 u297 u298 u299 u300 u301 u302 u303 u304 u305 u306 u307 u308 u309 u310 u311 u312 u313 u314 u315 u316 u317 u318 u319 u320 u321 u322 u323 u324 u325 u326 u327 u328 u329 u330 u331 u332 u333 u334 u335 u336 u337 u338 u339 u340 u341 u342 u343 u344 u345 u346 u347 u348 u349 u350 u351 u352 u353 u354 u355 u356 u357 u358 u359 u360 u361 u362 u363 u364 u365 u366 u367 u368 u369 u370 u371 u372 u373 u374 u375 u376 u377 u378 u379 u380 u381 u382 u383 u384 u385 u386 u387 u388 u389 u390 u391 u392 u393 u394 u395 u396 u397 u398 u399 u400 u401 u402 u403 u404 u405 u406 u407 u408 u409 u410 u411 u412 u413 u414 u415 u416 u417 u418 u419 u420 u421 u422 u423 u424 u425 u426 u427 u428 u429 u430 u431 u432 u433 u434 u435 u436 u437 u438 u439 u440 u441 u442 u443 u444 u445 u446 u447 u448 u449 u450 u451 u452 u453 u454 u455 u456 u457 u458 u459 u460 u461 u462 u463 u464 u465 u466 u467 u468 u469 u470 u471 u472 u473 u474 u475 u476 u477 u478 u479 u480 u481 u482 u483 u484 u485 u486 u487 u488 u489 u490 u491 u492 u493 u494 u495 u496 u497 u498 u499 u500 u501 u502 u503 u504 u505 u506 u507 u508 u509 u510 u511 u512 u513 u514 u515 u516 u517 u518 u519 u520 u521 u522 u523 u524 u525 u526 u527 u528 u529 u530 u531 u532 u533 u534 u535 u536 u537 u538 u539 u540 u541 u542 u543 u544 u545 u546 u547 u548 u549 u550 u551 u552 u553 u554 u555 u556 u557 u558 u559 u560 u561 u562 u563 u564 u565 u566 u567 u568 u569 u570 u571 u572 u573 u574 u575 u576 u577 u578 u579 u580 u581 u582 u583 u584 u585 u586 u587 u588 u589 u590 u591 u592 u593 u594 u595 u596 u597 u598 u599 u600 u601 u602 u603 u604 u605 u606 u607 u608 u609 u610 u611 u612 u613 : Value}
    (hK : ∀ (x592 x593 x594 x595 x596 x597 x598 x599 x600 x601 x602 x603 x604 x605 x606 x607 x608 x609 x610 x611 x612 x613 : Value) (W' : World), Below Y.heap.size Y W' → Q .normal { tmps := #[u0, u1, u2, u3, u4, u5, u6, u7, u8, u9, u10, u11, u12, u13, u14, u15, u16, u17, u18, u19, u20, u21, .bool true, u23, u24, u25, u26, u27, u28, u29, u30, u31, u32, u33, u34, u35, u36, u37, u38, u39, u40, u41, u42, u43, u44, u45, u46, u47, u48, u49, u50, u51, .pointer (some ⟨b, 0, none⟩), u53, u54, u55, u56, u57, u58, u59, u60, u61, u62, u63, u64, u65, u66, u67, u68, u69, .pointer (some ⟨q0, 0, none⟩), .pointer (some ⟨q1, 0, none⟩), .int .i64 S.pm, u73, u74, u75, u76, u77, u78, u79, u80, u81, u82, u83, u84, u85, u86, u87, u88, u89, u90, u91, u92, u93, u94, u95, u96, u97, u98, u99, u100, u101, u102, u103, u104, u105, u106, u107, u108, u109, u110, u111, u112, u113, u114, u115, u116, u117, u118, u119, u120, u121, u122, u123, u124, u125, u126, u127, u128, u129, u130, u131, u132, u133, u134, u135, u136, u137, u138, u139, u140, u141, u142, u143, u144, u145, u146, u147, u148, u149, u150, u151, u152, u153, u154, u155, u156, u157, u158, u159, u160, u161, u162, u163, u164, u165, u166, u167, u168, u169, u170, u171, u172, u173, u174, u175, u176, u177, u178, u179, u180, u181, u182, u183, u184, u185, u186, u187, u188, u189, u190, u191, u192, u193, u194, u195, u196, u197, u198, u199, u200, u201, u202, u203, u204, u205, u206, u207, u208, u209, u210, u211, u212, u213, u214, u215, u216, u217, u218, u219, u220, u221, u222, u223, u224, u225, u226, u227, u228, u229, u230, u231, u232, u233, u234, u235, u236, u237, u238, u239, u240, u241, u242, u243, u244, u245, u246, u247, u248, u249, u250, u251, u252, u253, u254, u255, u256, u257, u258, u259, u260, u261, u262, u263, u264, u265, u266, u267, u268, u269, u270, u271, u272, u273, u274, u275, u276, u277, u278, u279, u280, u281, u282, u283, u284, u285, u286, u287, u288, u289, u290, u291, u292, u293, u294, u295, u296, u297, u298, u299, u300, u301, u302, u303, u304, u305, u306, u307, u308, u309, u310, u311, u312, u313, u314, u315, u316, u317, u318, u319, u320, u321, u322, u323, u324, u325, u326, u327, u328, u329, u330, u331, u332, u333, u334, u335, u336, u337, u338, u339, u340, u341, u342, u343, u344, u345, u346, u347, u348, u349, u350, u351, u352, u353, u354, u355, u356, u357, u358, u359, u360, u361, u362, u363, u364, u365, u366, u367, u368, u369, u370, u371, u372, u373, u374, u375, u376, u377, u378, u379, u380, u381, u382, u383, u384, u385, u386, u387, u388, u389, u390, u391, u392, u393, u394, u395, u396, u397, u398, u399, u400, u401, u402, u403, u404, u405, u406, u407, u408, u409, u410, u411, u412, u413, u414, u415, u416, u417, u418, u419, u420, u421, u422, u423, u424, u425, u426, u427, u428, u429, u430, u431, u432, u433, u434, u435, u436, u437, u438, u439, u440, u441, u442, u443, u444, u445, u446, u447, u448, u449, u450, u451, u452, u453, u454, u455, u456, u457, u458, u459, u460, u461, u462, u463, u464, u465, u466, u467, u468, u469, u470, u471, u472, u473, u474, u475, u476, u477, u478, u479, u480, u481, u482, u483, u484, u485, u486, u487, u488, u489, u490, u491, u492, u493, u494, u495, u496, u497, u498, u499, u500, u501, u502, u503, u504, u505, u506, u507, u508, u509, u510, u511, u512, u513, u514, u515, u516, u517, u518, u519, u520, u521, u522, u523, u524, u525, u526, u527, u528, u529, u530, u531, u532, u533, u534, u535, u536, u537, u538, u539, u540, u541, u542, u543, u544, u545, u546, u547, u548, u549, u550, u551, u552, u553, u554, u555, u556, u557, u558, u559, u560, u561, u562, u563, u564, u565, u566, u567, u568, u569, u570, u571, u572, u573, u574, u575, u576, u577, u578, u579, u580, u581, u582, u583, u584, u585, u586, u587, u588, u589, u590, u591, x592, x593, x594, x595, x596, x597, x598, x599, x600, x601, x602, x603, x604, x605, x606, x607, x608, x609, x610, x611, x612, x613], defers := [] } W') :
    Code.wp Ybaz.prog (lawReg 145) Q { tmps := #[u0, u1, u2, u3, u4, u5, u6, u7, u8, u9, u10, u11, u12, u13, u14, u15, u16, u17, u18, u19, u20, u21, u22, u23, u24, u25, u26, u27, u28, u29, u30, u31, u32, u33, u34, u35, u36, u37, u38, u39, u40, u41, u42, u43, u44, u45, u46, u47, u48, u49, u50, u51, .pointer (some ⟨b, 0, none⟩), u53, u54, u55, u56, u57, u58, u59, u60, u61, u62, u63, u64, u65, u66, u67, u68, u69, .pointer (some ⟨q0, 0, none⟩), .pointer (some ⟨q1, 0, none⟩), .int .i64 S.pm, u73, u74, u75, u76, u77, u78, u79, u80, u81, u82, u83, u84, u85, u86, u87, u88, u89, u90, u91, u92, u93, u94, u95, u96, u97, u98, u99, u100, u101, u102, u103, u104, u105, u106, u107, u108, u109, u110, u111, u112, u113, u114, u115, u116, u117, u118, u119, u120, u121, u122, u123, u124, u125, u126, u127, u128, u129, u130, u131, u132, u133, u134, u135, u136, u137, u138, u139, u140, u141, u142, u143, u144, u145, u146, u147, u148, u149, u150, u151, u152, u153, u154, u155, u156, u157, u158, u159, u160, u161, u162, u163, u164, u165, u166, u167, u168, u169, u170, u171, u172, u173, u174, u175, u176, u177, u178, u179, u180, u181, u182, u183, u184, u185, u186, u187, u188, u189, u190, u191, u192, u193, u194, u195, u196, u197, u198, u199, u200, u201, u202, u203, u204, u205, u206, u207, u208, u209, u210, u211, u212, u213, u214, u215, u216, u217, u218, u219, u220, u221, u222, u223, u224, u225, u226, u227, u228, u229, u230, u231, u232, u233, u234, u235, u236, u237, u238, u239, u240, u241, u242, u243, u244, u245, u246, u247, u248, u249, u250, u251, u252, u253, u254, u255, u256, u257, u258, u259, u260, u261, u262, u263, u264, u265, u266, u267, u268, u269, u270, u271, u272, u273, u274, u275, u276, u277, u278, u279, u280, u281, u282, u283, u284, u285, u286, u287, u288, u289, u290, u291, u292, u293, u294, u295, u296, u297, u298, u299, u300, u301, u302, u303, u304, u305, u306, u307, u308, u309, u310, u311, u312, u313, u314, u315, u316, u317, u318, u319, u320, u321, u322, u323, u324, u325, u326, u327, u328, u329, u330, u331, u332, u333, u334, u335, u336, u337, u338, u339, u340, u341, u342, u343, u344, u345, u346, u347, u348, u349, u350, u351, u352, u353, u354, u355, u356, u357, u358, u359, u360, u361, u362, u363, u364, u365, u366, u367, u368, u369, u370, u371, u372, u373, u374, u375, u376, u377, u378, u379, u380, u381, u382, u383, u384, u385, u386, u387, u388, u389, u390, u391, u392, u393, u394, u395, u396, u397, u398, u399, u400, u401, u402, u403, u404, u405, u406, u407, u408, u409, u410, u411, u412, u413, u414, u415, u416, u417, u418, u419, u420, u421, u422, u423, u424, u425, u426, u427, u428, u429, u430, u431, u432, u433, u434, u435, u436, u437, u438, u439, u440, u441, u442, u443, u444, u445, u446, u447, u448, u449, u450, u451, u452, u453, u454, u455, u456, u457, u458, u459, u460, u461, u462, u463, u464, u465, u466, u467, u468, u469, u470, u471, u472, u473, u474, u475, u476, u477, u478, u479, u480, u481, u482, u483, u484, u485, u486, u487, u488, u489, u490, u491, u492, u493, u494, u495, u496, u497, u498, u499, u500, u501, u502, u503, u504, u505, u506, u507, u508, u509, u510, u511, u512, u513, u514, u515, u516, u517, u518, u519, u520, u521, u522, u523, u524, u525, u526, u527, u528, u529, u530, u531, u532, u533, u534, u535, u536, u537, u538, u539, u540, u541, u542, u543, u544, u545, u546, u547, u548, u549, u550, u551, u552, u553, u554, u555, u556, u557, u558, u559, u560, u561, u562, u563, u564, u565, u566, u567, u568, u569, u570, u571, u572, u573, u574, u575, u576, u577, u578, u579, u580, u581, u582, u583, u584, u585, u586, u587, u588, u589, u590, u591, u592, u593, u594, u595, u596, u597, u598, u599, u600, u601, u602, u603, u604, u605, u606, u607, u608, u609, u610, u611, u612, u613], defers := [] } Y := by
  have HK : Hid _ := hK
  have HS : Hid (Y.heap[b]? = some (.cells S.cells 58)) := hS
  have HA : Hid (Y.heap[q0]? = some (.cells #[.int .u64 S.tp.n, .int .i64 S.tp.s, .pointer none] 48)) := hA
  have HB : Hid (Y.heap[q1]? = some (.cells #[.int .u64 S.tn.n, .int .i64 S.tn.s, .pointer none] 48)) := hB
  have HSL : Hid (b < Y.heap.size) := hS.lt
  have HAL : Hid (q0 < Y.heap.size) := (Array.getElem?_eq_some_iff.1 hA).1
  have HBL : Hid (q1 < Y.heap.size) := (Array.getElem?_eq_some_iff.1 hB).1
  have HTP : Hid S.tp.ok := htp
  have HTN : Hid S.tn.ok := htn
  clear hK hS hA hB htp htn
  conv => arg 2; whnf
  refine wp_region_putG (fun w' => Below Y.heap.size Y w') (fun w' => Below Y.heap.size Y w') (psi145 b S) 22 [(598, true), (606, true)] [22, 592, 593, 594, 595, 596, 597, 598, 599, 600, 601, 602, 603, 604, 605, 606, 607, 608, 609, 610, 611, 612, 613] mixed ?h0 (by kernel_rfl) ?hgl (by kernel_rfl) (by kernel_rfl) (by kernel_rfl) (by kernel_rfl) (by kernel_rfl) ?each ?last ?fin
  case h0 => exact (Below.refl _ _).drew
  case hgl =>
    intro p hp v hv
    simp only [List.mem_cons, List.not_mem_nil, or_false] at hp
    rcases hp with rfl | rfl <;> exact hv
  case each =>
    simp only [List.dropLast, List.forall_mem_cons]
    refine ⟨?_, ?_, ?_, ?_, ?_, ?_, ?_, ?_, ?_, ?_, ?_, ?_, ?_, ?_, ?_, ?_, ?_, ?_, ?_, ?_, ?_, ?_, fun _ h => by cases h⟩
    · intro a w1 hC hs hn
      have h0' : a.tmps.getD 52 undef = .pointer (some ⟨b, 0, none⟩) := hs 52 (by kernel_rfl)
      have HC : Hid _ := hC
      clear hs hn hC
      unfold Oper.wp
      simp only [execOp, Act.eval, h0']
      exact ⟨_, rfl, fun t ht => by cases ht; rfl, HC.out⟩
    · intro a w1 hC hs hn
      have h0' : a.tmps.getD 592 undef = .pointer (some ⟨b, 0, none⟩) := hn 592 (by kernel_rfl)
      have HC : Hid _ := hC
      clear hs hn hC
      unfold Oper.wp
      simp only [execOp, Act.eval, h0']
      go_simp
      exact ⟨_, rfl, rfl, HC.out⟩
    · intro a w1 hC hs hn
      have h0' : a.tmps.getD 593 undef = .pointer (some ⟨b, 0, none⟩) := hn 593 (by kernel_rfl)
      have HC : Hid _ := hC
      clear hs hn hC
      unfold Oper.wp
      simp only [execOp, Act.eval, h0']
      go_simp
      exact ⟨_, rfl, rfl, HC.out⟩
    · intro a w1 hC hs hn
      have h0' : a.tmps.getD 594 undef = .pointer (some ⟨b, 7, none⟩) := hn 594 (by kernel_rfl)
      have HC : Hid _ := hC
      have hc0 : w1.cell? ⟨b, 7, none⟩ = some (.int .i64 S.pm) := cell_of ((hC.block b HSL.out).trans HS.out)
      clear hs hn hC
      unfold Oper.wp
      simp only [execOp, Act.eval, h0']
      go_simp
      exact ⟨_, rfl, rfl, HC.out⟩
    · intro a w1 hC hs hn
      have h0' : a.tmps.getD 72 undef = .int .i64 S.pm := hs 72 (by kernel_rfl)
      have HC : Hid _ := hC
      clear hs hn hC
      unfold Oper.wp
      simp only [execOp, Act.eval, h0']
      exact ⟨_, rfl, fun t ht => by cases ht; rfl, HC.out⟩
    · intro a w1 hC hs hn
      have h0' : a.tmps.getD 595 undef = .int .i64 S.pm := hn 595 (by kernel_rfl)
      have h1' : a.tmps.getD 596 undef = .int .i64 S.pm := hn 596 (by kernel_rfl)
      have HC : Hid _ := hC
      clear hs hn hC
      unfold Oper.wp
      simp only [execOp, Act.eval, h0', h1']
      go_simp
      exact ⟨_, rfl, rfl, HC.out⟩
    · intro a w1 hC hs hn
      have h0' : a.tmps.getD 597 undef = .bool true := hn 597 (by kernel_rfl)
      have HC : Hid _ := hC
      clear hs hn hC
      unfold Oper.wp
      simp only [execOp, Act.eval, h0']
      exact ⟨_, rfl, fun t ht => by cases ht; rfl, HC.out⟩
    · intro a w1 hC hs hn
      have h0' : a.tmps.getD 52 undef = .pointer (some ⟨b, 0, none⟩) := hs 52 (by kernel_rfl)
      have HC : Hid _ := hC
      clear hs hn hC
      unfold Oper.wp
      simp only [execOp, Act.eval, h0']
      exact ⟨_, rfl, fun t ht => by cases ht; rfl, HC.out⟩
    · intro a w1 hC hs hn
      have h0' : a.tmps.getD 599 undef = .pointer (some ⟨b, 0, none⟩) := hn 599 (by kernel_rfl)
      have HC : Hid _ := hC
      clear hs hn hC
      unfold Oper.wp
      simp only [execOp, Act.eval, h0']
      go_simp
      exact ⟨_, rfl, rfl, HC.out⟩
    · intro a w1 hC hs hn
      have h0' : a.tmps.getD 600 undef = .pointer (some ⟨b, 0, none⟩) := hn 600 (by kernel_rfl)
      have HC : Hid _ := hC
      clear hs hn hC
      unfold Oper.wp
      simp only [execOp, Act.eval, h0']
      go_simp
      exact ⟨_, rfl, rfl, HC.out⟩
    · intro a w1 hC hs hn
      have h0' : a.tmps.getD 601 undef = .pointer (some ⟨b, 8, none⟩) := hn 601 (by kernel_rfl)
      have HC : Hid _ := hC
      have hc0 : w1.cell? ⟨b, 8, none⟩ = some (.int .u64 S.tp.n) := cell_of ((hC.block b HSL.out).trans HS.out)
      have hc1 : w1.cell? ⟨b, 9, none⟩ = some (.int .i64 S.tp.s) := cell_of ((hC.block b HSL.out).trans HS.out)
      have hc2 : w1.cell? ⟨b, 10, none⟩ = some (.pointer none) := cell_of ((hC.block b HSL.out).trans HS.out)
      clear hs hn hC
      unfold Oper.wp
      simp only [execOp, Act.eval, h0']
      go_simp
      exact ⟨_, rfl, rfl, HC.out⟩
    · intro a w1 hC hs hn
      have h0' : a.tmps.getD 70 undef = .pointer (some ⟨q0, 0, none⟩) := hs 70 (by kernel_rfl)
      have HC : Hid _ := hC
      have hc0 : w1.cell? ⟨q0, 0, none⟩ = some (.int .u64 S.tp.n) := cell_of ((hC.block q0 HAL.out).trans HA.out)
      have hc1 : w1.cell? ⟨q0, 1, none⟩ = some (.int .i64 S.tp.s) := cell_of ((hC.block q0 HAL.out).trans HA.out)
      have hc2 : w1.cell? ⟨q0, 2, none⟩ = some (.pointer none) := cell_of ((hC.block q0 HAL.out).trans HA.out)
      clear hs hn hC
      unfold Oper.wp
      simp only [execOp, Act.eval, h0']
      go_simp
      exact ⟨_, rfl, rfl, HC.out⟩
    · intro a w1 hC hs hn
      have h0' : a.tmps.getD 602 undef = tv S.tp.n S.tp.s := hn 602 (by kernel_rfl)
      have h1' : a.tmps.getD 603 undef = tv S.tp.n S.tp.s := hn 603 (by kernel_rfl)
      have HC : Hid _ := hC
      clear hs hn hC
      unfold Oper.wp
      simp only [execOp, Act.eval, h0', h1']
      go_simp
      refine (equal_any _ _ _ _ w1 HTP.out.1 HTP.out.2 HTP.out.1 HTP.out.2).mono ?_
      rw [eqF_self]
      rintro e w2 ⟨rfl, hb⟩
      exact ⟨_, rfl, rfl, HC.out.trans (hb.mono HC.out.size)⟩
    · intro a w1 hC hs hn
      have h0' : a.tmps.getD 598 undef = .bool true := hn 598 (by kernel_rfl)
      have h1' : a.tmps.getD 604 undef = .bool true := hn 604 (by kernel_rfl)
      have HC : Hid _ := hC
      clear hs hn hC
      unfold Oper.wp
      simp only [execOp, Act.eval, h0', h1']
      go_simp
      exact ⟨_, rfl, rfl, HC.out⟩
    · intro a w1 hC hs hn
      have h0' : a.tmps.getD 605 undef = .bool true := hn 605 (by kernel_rfl)
      have HC : Hid _ := hC
      clear hs hn hC
      unfold Oper.wp
      simp only [execOp, Act.eval, h0']
      exact ⟨_, rfl, fun t ht => by cases ht; rfl, HC.out⟩
    · intro a w1 hC hs hn
      have h0' : a.tmps.getD 52 undef = .pointer (some ⟨b, 0, none⟩) := hs 52 (by kernel_rfl)
      have HC : Hid _ := hC
      clear hs hn hC
      unfold Oper.wp
      simp only [execOp, Act.eval, h0']
      exact ⟨_, rfl, fun t ht => by cases ht; rfl, HC.out⟩
    · intro a w1 hC hs hn
      have h0' : a.tmps.getD 607 undef = .pointer (some ⟨b, 0, none⟩) := hn 607 (by kernel_rfl)
      have HC : Hid _ := hC
      clear hs hn hC
      unfold Oper.wp
      simp only [execOp, Act.eval, h0']
      go_simp
      exact ⟨_, rfl, rfl, HC.out⟩
    · intro a w1 hC hs hn
      have h0' : a.tmps.getD 608 undef = .pointer (some ⟨b, 0, none⟩) := hn 608 (by kernel_rfl)
      have HC : Hid _ := hC
      clear hs hn hC
      unfold Oper.wp
      simp only [execOp, Act.eval, h0']
      go_simp
      exact ⟨_, rfl, rfl, HC.out⟩
    · intro a w1 hC hs hn
      have h0' : a.tmps.getD 609 undef = .pointer (some ⟨b, 11, none⟩) := hn 609 (by kernel_rfl)
      have HC : Hid _ := hC
      have hc0 : w1.cell? ⟨b, 11, none⟩ = some (.int .u64 S.tn.n) := cell_of ((hC.block b HSL.out).trans HS.out)
      have hc1 : w1.cell? ⟨b, 12, none⟩ = some (.int .i64 S.tn.s) := cell_of ((hC.block b HSL.out).trans HS.out)
      have hc2 : w1.cell? ⟨b, 13, none⟩ = some (.pointer none) := cell_of ((hC.block b HSL.out).trans HS.out)
      clear hs hn hC
      unfold Oper.wp
      simp only [execOp, Act.eval, h0']
      go_simp
      exact ⟨_, rfl, rfl, HC.out⟩
    · intro a w1 hC hs hn
      have h0' : a.tmps.getD 71 undef = .pointer (some ⟨q1, 0, none⟩) := hs 71 (by kernel_rfl)
      have HC : Hid _ := hC
      have hc0 : w1.cell? ⟨q1, 0, none⟩ = some (.int .u64 S.tn.n) := cell_of ((hC.block q1 HBL.out).trans HB.out)
      have hc1 : w1.cell? ⟨q1, 1, none⟩ = some (.int .i64 S.tn.s) := cell_of ((hC.block q1 HBL.out).trans HB.out)
      have hc2 : w1.cell? ⟨q1, 2, none⟩ = some (.pointer none) := cell_of ((hC.block q1 HBL.out).trans HB.out)
      clear hs hn hC
      unfold Oper.wp
      simp only [execOp, Act.eval, h0']
      go_simp
      exact ⟨_, rfl, rfl, HC.out⟩
    · intro a w1 hC hs hn
      have h0' : a.tmps.getD 610 undef = tv S.tn.n S.tn.s := hn 610 (by kernel_rfl)
      have h1' : a.tmps.getD 611 undef = tv S.tn.n S.tn.s := hn 611 (by kernel_rfl)
      have HC : Hid _ := hC
      clear hs hn hC
      unfold Oper.wp
      simp only [execOp, Act.eval, h0', h1']
      go_simp
      refine (equal_any _ _ _ _ w1 HTN.out.1 HTN.out.2 HTN.out.1 HTN.out.2).mono ?_
      rw [eqF_self]
      rintro e w2 ⟨rfl, hb⟩
      exact ⟨_, rfl, rfl, HC.out.trans (hb.mono HC.out.size)⟩
    · intro a w1 hC hs hn
      have h0' : a.tmps.getD 606 undef = .bool true := hn 606 (by kernel_rfl)
      have h1' : a.tmps.getD 612 undef = .bool true := hn 612 (by kernel_rfl)
      have HC : Hid _ := hC
      clear hs hn hC
      unfold Oper.wp
      simp only [execOp, Act.eval, h0', h1']
      go_simp
      exact ⟨_, rfl, rfl, HC.out⟩
  case last =>
    simp only [List.getLast?, List.getLast, Option.mem_def, Option.some.injEq]
    rintro o rfl
    · intro a w1 hC hs hn
      have h0' : a.tmps.getD 613 undef = .bool true := hn 613 (by kernel_rfl)
      have HC : Hid _ := hC
      clear hs hn hC
      unfold Oper.wp
      simp only [execOp, Act.eval, h0']
      exact ⟨_, rfl, fun t ht => by cases ht; rfl, HC.out⟩
  case fin =>
    intro f0 w1 hC hp
    have e22 : f0 22 = .bool true := hp 22 (by kernel_rfl)
    simp only [List.foldl_cons, List.foldl_nil, List.setIfInBounds_toArray, List.set_cons_succ, List.set_cons_zero, e22]
    exact HK.out _ _ _ _ _ _ _ _ _ _ _ _ _ _ _ _ _ _ _ _ _ _ _ hC

end Go.Proofs.YbulkdsruGreatDoor
