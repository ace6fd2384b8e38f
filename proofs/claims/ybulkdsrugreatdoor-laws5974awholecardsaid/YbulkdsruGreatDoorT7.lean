import Derived.Test.YbulkdsruGreatDoorT10
import Derived.Test.YbulkdsruGreatDoorL1
import Derived.Test.YbulkdsruGreatDoorL2
namespace Go.Proofs.YbulkdsruGreatDoor
open Go.RowKit Go.Op
set_option linter.unusedVariables false
set_option linter.unusedSimpArgs false
set_option maxRecDepth 100000 in
set_option maxHeartbeats 4000000 in
theorem tail7 (w0 : World) (ci cp p : Nat) (byes avg dp dn dw first fs : Int) (lv : Bool) (ai ap : Option Addr) (li : List IM) (l : List IP) (vb ve : Value) (W : World) (hav0 : 0 ≤ avg) (hav1 : avg ≤ 65535) (hp : p ≤ 255) (hby : i64ok byes) (hdp : i64ok dp) (hdn : i64ok dn) (hdw : i64ok dw) (hf0 : 0 ≤ first) (hf1 : first ≤ 255) (hfs : u32ok fs) (hM : RowM w0 ai li) (hli : li.length ≤ 1024) (hP : RowP w0 ap l) (hl : l.length ≤ 1024) (ht : tot l ≤ 1024)
    (hB : Bld ⟨w0, fun _ _ => False⟩ w0.heap.size [] [] vb ve W) {u11 u12 u13 u14 u15 u16 u17 u18 u19 u20 u21 u22 u23 u24 u25 u26 u29 u30 u31 u32 u33 u34 u35 u36 u37 u38 u39 u40 u41 u42 u43 u44 u45 u46 u47 u48 u49 u50 u51 u52 u53 u54 u55 u56 u57 u58 u59 u60 u61 u62 u63 u64 u65 u66 u67 u68 u69 u70 u71 u72 u73 u74 u75 u76 u77 u78 u79 u80 u81 u82 u83 u84 u85 u86 u87 u88 u89 u90 u91 u92 u93 u94 u95 u96 u97 u98 u99 u100 u101 u102 u103 u104 u105 u106 u107 u108 u109 u110 u111 u112 u113 u114 u115 u116 u117 u118 u119 u120 u121 u122 u123 u124 u125 u126 u127 u128 u129 u130 u131 u132 u133 u134 u135 u136 u137 u138 u139 u140 u141 u142 u143 u144 u145 u146 u147 u148 u149 u150 u151 u152 u153 u154 u155 u156 u157 u158 u159 u160 u161 u162 u163 u164 u165 u166 u167 u168 u169 u170 u171 u172 u173 u174 u175 u176 u177 u178 u179 u180 u181 u182 u183 u184 u185 u186 u187 u188 u189 u190 u191 u192 u193 u194 u195 u196 u197 u198 u199 u200 u201 u202 u203 u204 u205 u206 u207 u208 u209 u210 u211 u212 u213 u214 u215 u216 u217 u218 u219 u220 u221 u222 u223 u224 u225 u226 u227 u228 u229 u230 u231 u232 u233 u234 u235 u236 u237 u238 u239 u240 u241 u242 u243 u244 u245 u246 u247 u248 u249 u250 u251 u252 u253 u254 u255 u256 u257 u258 u259 u260 u261 u262 u263 u264 u265 u266 u267 u268 u269 u270 u271 u272 u273 u274 u275 u276 u277 u278 u279 u280 u281 u282 u283 u284 u285 u286 u287 u288 u289 u290 u291 u292 u293 u294 u295 u296 u297 u298 u299 u300 u301 u302 u303 u304 u305 u306 u307 u308 u309 u310 u311 u312 u313 u314 u315 u316 u317 u318 u319 u320 u321 u322 u323 u324 u325 u326 u327 u328 u329 u330 u331 u332 u333 u334 u335 u336 u337 u338 u339 u340 u341 u342 u343 u344 u345 u346 u347 u348 u349 u350 u351 u352 u353 u354 u355 u356 u357 u358 u359 u360 u361 u362 u363 u364 u365 u366 u367 u368 u369 u370 u371 u372 u373 u374 u375 u376 u377 u378 u379 u380 u381 u382 u383 u384 u385 u386 u387 u388 u389 u390 u391 u392 u393 u394 u395 u396 u397 u398 u399 u400 u401 u402 u403 u404 u405 u406 u407 u408 u409 u410 u411 u412 u413 u414 u415 u416 u417 u418 u419 u420 u421 u422 u423 u424 u425 u426 u427 u428 u429 u430 u431 u432 u433 u434 u435 u436 u437 u438 u439 u440 u441 u442 u443 u444 u445 u446 u447 u448 u449 u450 u451 u452 u453 u454 u455 u456 u457 u458 u459 u460 u461 u462 u463 u464 u465 u466 u467 u468 u469 u470 u471 u472 u473 u474 u475 u476 u477 u478 u479 u480 u481 u482 u483 u484 u485 u486 u487 u488 u489 u490 u491 u492 u493 u494 u495 u496 u497 u498 u499 u500 u501 u502 u503 u504 u505 u506 u507 u508 u509 u510 u511 u512 u513 u514 u515 u516 u517 u518 u519 u520 u521 u522 u523 u524 u525 u526 u527 u528 u529 u530 u531 u532 u533 u534 u535 u536 u537 u538 u539 u540 u541 u542 u543 u544 u545 u546 u547 u548 u549 u550 u551 u552 u553 u554 u555 u556 u557 u558 u559 u560 u561 u562 u563 u564 u565 u566 u567 u568 u569 u570 u571 u572 u573 u574 u575 u576 u577 u578 u579 u580 u581 u582 u583 u584 u585 u586 u587 u588 u589 u590 u591 u592 u593 u594 u595 u596 u597 u598 u599 u600 u601 u602 u603 u604 u605 u606 u607 u608 u609 u610 u611 u612 u613 : Value} :
    Code.wp Ybaz.prog (lawTail 7) (bodyPost Ybaz.prog Ybaz.f3 fun e w' => e = Ending.returned (.bool true) ∧ Below w0.heap.size w0 w') { tmps := #[.bool lv, .int .i64 byes, .int .u16 avg, .int .u8 (p : Nat), .int .i64 dp, .int .i64 dn, .int .i64 dw, .slice ai li.length ci, .int .u8 first, .int .u32 fs, .slice ap l.length cp, u11, u12, u13, u14, u15, u16, u17, u18, u19, u20, u21, u22, u23, u24, u25, u26, ve, vb, u29, u30, u31, u32, u33, u34, u35, u36, u37, u38, u39, u40, u41, u42, u43, u44, u45, u46, u47, u48, u49, u50, u51, u52, u53, u54, u55, u56, u57, u58, u59, u60, u61, u62, u63, u64, u65, u66, u67, u68, u69, u70, u71, u72, u73, u74, u75, u76, u77, u78, u79, u80, u81, u82, u83, u84, u85, u86, u87, u88, u89, u90, u91, u92, u93, u94, u95, u96, u97, u98, u99, u100, u101, u102, u103, u104, u105, u106, u107, u108, u109, u110, u111, u112, u113, u114, u115, u116, u117, u118, u119, u120, u121, u122, u123, u124, u125, u126, u127, u128, u129, u130, u131, u132, u133, u134, u135, u136, u137, u138, u139, u140, u141, u142, u143, u144, u145, u146, u147, u148, u149, u150, u151, u152, u153, u154, u155, u156, u157, u158, u159, u160, u161, u162, u163, u164, u165, u166, u167, u168, u169, u170, u171, u172, u173, u174, u175, u176, u177, u178, u179, u180, u181, u182, u183, u184, u185, u186, u187, u188, u189, u190, u191, u192, u193, u194, u195, u196, u197, u198, u199, u200, u201, u202, u203, u204, u205, u206, u207, u208, u209, u210, u211, u212, u213, u214, u215, u216, u217, u218, u219, u220, u221, u222, u223, u224, u225, u226, u227, u228, u229, u230, u231, u232, u233, u234, u235, u236, u237, u238, u239, u240, u241, u242, u243, u244, u245, u246, u247, u248, u249, u250, u251, u252, u253, u254, u255, u256, u257, u258, u259, u260, u261, u262, u263, u264, u265, u266, u267, u268, u269, u270, u271, u272, u273, u274, u275, u276, u277, u278, u279, u280, u281, u282, u283, u284, u285, u286, u287, u288, u289, u290, u291, u292, u293, u294, u295, u296, u297, u298, u299, u300, u301, u302, u303, u304, u305, u306, u307, u308, u309, u310, u311, u312, u313, u314, u315, u316, u317, u318, u319, u320, u321, u322, u323, u324, u325, u326, u327, u328, u329, u330, u331, u332, u333, u334, u335, u336, u337, u338, u339, u340, u341, u342, u343, u344, u345, u346, u347, u348, u349, u350, u351, u352, u353, u354, u355, u356, u357, u358, u359, u360, u361, u362, u363, u364, u365, u366, u367, u368, u369, u370, u371, u372, u373, u374, u375, u376, u377, u378, u379, u380, u381, u382, u383, u384, u385, u386, u387, u388, u389, u390, u391, u392, u393, u394, u395, u396, u397, u398, u399, u400, u401, u402, u403, u404, u405, u406, u407, u408, u409, u410, u411, u412, u413, u414, u415, u416, u417, u418, u419, u420, u421, u422, u423, u424, u425, u426, u427, u428, u429, u430, u431, u432, u433, u434, u435, u436, u437, u438, u439, u440, u441, u442, u443, u444, u445, u446, u447, u448, u449, u450, u451, u452, u453, u454, u455, u456, u457, u458, u459, u460, u461, u462, u463, u464, u465, u466, u467, u468, u469, u470, u471, u472, u473, u474, u475, u476, u477, u478, u479, u480, u481, u482, u483, u484, u485, u486, u487, u488, u489, u490, u491, u492, u493, u494, u495, u496, u497, u498, u499, u500, u501, u502, u503, u504, u505, u506, u507, u508, u509, u510, u511, u512, u513, u514, u515, u516, u517, u518, u519, u520, u521, u522, u523, u524, u525, u526, u527, u528, u529, u530, u531, u532, u533, u534, u535, u536, u537, u538, u539, u540, u541, u542, u543, u544, u545, u546, u547, u548, u549, u550, u551, u552, u553, u554, u555, u556, u557, u558, u559, u560, u561, u562, u563, u564, u565, u566, u567, u568, u569, u570, u571, u572, u573, u574, u575, u576, u577, u578, u579, u580, u581, u582, u583, u584, u585, u586, u587, u588, u589, u590, u591, u592, u593, u594, u595, u596, u597, u598, u599, u600, u601, u602, u603, u604, u605, u606, u607, u608, u609, u610, u611, u612, u613], defers := [] } W := by
  have HI : Hid ((0 ≤ avg ∧ avg ≤ 65535) ∧ p ≤ 255 ∧ i64ok byes ∧ i64ok dp ∧ i64ok dn ∧ i64ok dw) := ⟨⟨hav0, hav1⟩, hp, hby, hdp, hdn, hdw⟩
  have HF : Hid ((0 ≤ first ∧ first ≤ 255) ∧ u32ok fs) := ⟨⟨hf0, hf1⟩, hfs⟩
  have HM : Hid (RowM w0 ai li ∧ li.length ≤ 1024) := ⟨hM, hli⟩
  have HP : Hid (RowP w0 ap l ∧ l.length ≤ 1024) := ⟨hP, hl⟩
  have HT : Hid (tot l ≤ 1024) := ht
  have B0 : Hid (Bld ⟨w0, fun _ _ => False⟩ w0.heap.size [] [] vb ve W) := hB
  clear hav0 hav1 hp hby hdp hdn hdw hfs hM hli hP hl ht hB
  conv => arg 2; whnf
  by_cases q : first % 2 = 0
  · 
    go_upto_region 18 with ((at_builtin; refine wpList_appB [128, 200, 0, 6] B0.out rfl _ _ rfl rfl 4 rfl (by simp) (by simp) ?_; intro vb1 w1 hB1; have B1 : Hid _ := hB1; clear hB1))
    go_wp2_with fail
    go_at_call 4
    refine (put_any _ _ _ _ _ _ fs _ B1.out (by simp)).mono ?_
    rintro e w2 ⟨vb2, rfl, hB2⟩
    have B2 : Hid _ := hB2
    clear hB2
    go_upto_region 20 with (at_builtin; refine wpList_appZ 20 B2.out rfl _ _ rfl rfl rfl (by simp [be4_len]) (by decide) (by simp [be4_len]) ?_; intro vb3 w3 hB3; have B3 : Hid _ := hB3; clear hB3)
    go_upto_block 2 with (at_builtin; refine wpList_appE 0 fs B3.out rfl _ _ rfl rfl 1 rfl (by simp) ?_; intro ve4 w4 hB4; have B4 : Hid _ := hB4; clear hB4)
    rename_i Q1 K1 hK1
    have hps : pks first fs [] = [] ++ [.sr fs] := by show [fstP first fs] = _; unfold fstP; rw [if_pos q]; rfl
    have hB5 : Bld ⟨w0, fun _ _ => False⟩ w0.heap.size (flat (pks first fs [])) (evl (pks first fs [])) vb3 ve4 w4 := by
      rw [hps, flat_sr, evl_sr]
      exact B4.out
    refine loop2 w0 ap cp l first fs vb3 ve4 w4 HP.out.1 HP.out.2 HT.out hB5 _ _ ?_
    intro vb6 ve6 _ _ _ _ _ _ _ _ _ _ _ _ _ _ _ _ _ _ _ _ _ _ _ _ _ _ _ _ _ _ _ _ _ _ _ _ _ _ _ _ _ _ _ _ _ _ _ _ _ _ _ _ _ _ _ _ _ _ _ _ _ _ _ _ _ _ _ _ _ _ _ _ _ _ _ _ _ _ _ _ _ _ _ _ W6 hB6
    refine hK1 _ _ ?_
    exact tail10 w0 ci p byes avg dp dn dw lv (pks first fs l) ai li vb6 ve6 W6 HI.out.1.1 HI.out.1.2 HI.out.2.1 HI.out.2.2.1 HI.out.2.2.2.1 HI.out.2.2.2.2.1 HI.out.2.2.2.2.2 hB6 HM.out.1 HM.out.2 (pks_ok HP.out.1 HF.out.2) (by have := HP.out.2; simp [pks]; omega) (by have := flat_len first fs l; have := HP.out.2; omega) (by have := evs_len first fs l; have := HT.out; omega) (pks_evs first fs l) (pks_head first fs l)
  · 
    go_upto_region 22 with ((at_builtin; refine wpList_appB [128, 201, 0, 1] B0.out rfl _ _ rfl rfl 4 rfl (by simp) (by simp) ?_; intro vb1 w1 hB1; have B1 : Hid _ := hB1; clear hB1))
    go_wp2_with fail
    go_at_call 4
    refine (put_any _ _ _ _ _ _ fs _ B1.out (by simp)).mono ?_
    rintro e w2 ⟨vb2, rfl, hB2⟩
    have B2 : Hid _ := hB2
    clear hB2
    go_upto_block 2 with (at_builtin; refine wpList_appE 1 fs B2.out rfl _ _ rfl rfl 1 rfl (by simp) ?_; intro ve4 w4 hB4; have B4 : Hid _ := hB4; clear hB4)
    rename_i Q1 K1 hK1
    have hps : pks first fs [] = [] ++ [.rr fs] := by show [fstP first fs] = _; unfold fstP; rw [if_neg q]; rfl
    have hB5 : Bld ⟨w0, fun _ _ => False⟩ w0.heap.size (flat (pks first fs [])) (evl (pks first fs [])) vb2 ve4 w4 := by
      rw [hps, flat_rr, evl_rr]
      exact B4.out
    refine loop2 w0 ap cp l first fs vb2 ve4 w4 HP.out.1 HP.out.2 HT.out hB5 _ _ ?_
    intro vb6 ve6 _ _ _ _ _ _ _ _ _ _ _ _ _ _ _ _ _ _ _ _ _ _ _ _ _ _ _ _ _ _ _ _ _ _ _ _ _ _ _ _ _ _ _ _ _ _ _ _ _ _ _ _ _ _ _ _ _ _ _ _ _ _ _ _ _ _ _ _ _ _ _ _ _ _ _ _ _ _ _ _ _ _ _ _ W6 hB6
    refine hK1 _ _ ?_
    exact tail10 w0 ci p byes avg dp dn dw lv (pks first fs l) ai li vb6 ve6 W6 HI.out.1.1 HI.out.1.2 HI.out.2.1 HI.out.2.2.1 HI.out.2.2.2.1 HI.out.2.2.2.2.1 HI.out.2.2.2.2.2 hB6 HM.out.1 HM.out.2 (pks_ok HP.out.1 HF.out.2) (by have := HP.out.2; simp [pks]; omega) (by have := flat_len first fs l; have := HP.out.2; omega) (by have := evs_len first fs l; have := HT.out; omega) (pks_evs first fs l) (pks_head first fs l)
end Go.Proofs.YbulkdsruGreatDoor
