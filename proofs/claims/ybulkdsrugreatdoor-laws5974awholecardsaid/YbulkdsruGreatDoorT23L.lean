import Derived.Test.YbulkdsruGreatDoorR94
import Derived.Test.YbulkdsruGreatDoorL7
import Derived.Test.YbulkdsruGreatDoorT33
namespace Go.Proofs.YbulkdsruGreatDoor
open Go.RowKit Go.Op
set_option linter.unusedVariables false
set_option linter.unusedSimpArgs false
theorem under56 : Ybaz.prog.underlying 56 = some (.func #[] #[54] false) := by kernel_rfl
theorem eqIn_nilF (w : World) (d : Nat) : (Op.equalIn (d+1) 56 .nilFunc .nilFunc).run Ybaz.prog w = .ok true w := by
  simp [Op.equalIn, run_underlying under56]
theorem neq_nilF (w : World) : (binOp .neq 56 .nilFunc .nilFunc).run Ybaz.prog w = .ok (.bool false) w := by
  simp only [binOp]
  simp [show Op.equal 56 Value.nilFunc Value.nilFunc = Op.equalIn (9999 + 1) 56 .nilFunc .nilFunc from rfl, eqIn_nilF w 9999]
theorem u16_lt {avg : Int} (h0 : 0 ≤ avg) (h1 : avg ≤ 65535) : rg (floatOfInt .f64 avg) < INF := foi_lt (by omega)
theorem u16_nan {avg : Int} (h0 : 0 ≤ avg) (h1 : avg ≤ 65535) : isNaN (floatOfInt .f64 avg) = false := by
  unfold isNaN; rw [read_fin (u16_lt h0 h1)]; rfl
set_option maxRecDepth 100000 in
set_option maxHeartbeats 4000000 in
theorem tail23L (w0 : World) (b pb nb mb kb kc n1 n2 g g2 cap cap2 L nby : Nat) (byes avg : Int) (ks : List Int) (bs : List Int) (f : Ms) (S : StV) (W : World) (hB : Below w0.heap.size w0 W) (hS : Stt W b S) (hlv : S.lv = true) (hav0 : 0 ≤ avg) (hav1 : avg ≤ 65535)
    (hav : S.avg = if nby = 0 then floatOfInt .f64 avg else avgF (floatOfInt .f64 avg) L) (h1 : Row W g 0 bs) (h2 : Row W g2 0 bs) (hL : L = bs.length) (hLL : L ≤ 10000000)
    (hA : W.heap[pb]? = some (.cells #[.int .u64 S.tp.n, .int .i64 S.tp.s, .pointer none] 48)) (hT : W.heap[nb]? = some (.cells #[.int .u64 S.tn.n, .int .i64 S.tn.s, .pointer none] 48)) (htp : S.tp.ok) (htn : S.tn.ok) (hby : IntKind.i64.wrap (byes + (nby : Nat)) = S.byes) (hpm : IntKind.i64.wrap S.pm = S.pm)
    (hm1 : ∃ c, mp W S.mb n1 c (vals f)) (hm2 : ∃ c, mp W mb n2 c (vals f)) (hok : MsOk f) (hr : Row32 W kb ks) (hkb : kb < W.heap.size) (hu : ∀ k ∈ ks, u32ok k) (hkl : ks.length ≤ 1000000) {u4 u5 u6 u7 u8 u9 u10 u11 u12 u13 u14 u15 u16 u17 u18 u19 u20 u21 u22 u23 u24 u25 u26 u27 u30 u31 u32 u33 u34 u35 u38 u40 u41 u42 u43 u45 u46 u47 u48 u51 u53 u54 u55 u56 u57 u58 u59 u60 u61 u62 u63 u64 u65 u66 u67 u68 u69 u70 u71 u72 u73 u74 u75 u76 u77 u78 u79 u80 u81 u82 u83 u84 u85 u86 u87 u88 u89 u90 u91 u92 u93 u94 u95 u96 u97 u98 u99 u100 u101 u102 u103 u104 u105 u106 u107 u108 u109 u110 u111 u112 u113 u114 u115 u116 u117 u118 u119 u120 u121 u122 u123 u124 u125 u126 u127 u128 u129 u130 u131 u132 u133 u134 u135 u136 u137 u138 u139 u140 u141 u142 u143 u144 u145 u146 u147 u148 u149 u150 u151 u152 u153 u154 u155 u156 u157 u158 u159 u160 u161 u162 u163 u164 u165 u166 u167 u168 u169 u170 u171 u172 u173 u174 u175 u176 u177 u178 u179 u180 u181 u182 u183 u184 u185 u186 u187 u188 u189 u190 u191 u192 u193 u194 u195 u196 u197 u198 u199 u200 u201 u202 u203 u204 u205 u206 u207 u208 u209 u210 u211 u212 u213 u214 u215 u216 u217 u218 u219 u220 u221 u222 u223 u224 u225 u226 u227 u228 u229 u230 u231 u232 u233 u234 u235 u236 u237 u238 u239 u240 u241 u242 u243 u244 u245 u246 u247 u248 u249 u250 u251 u252 u253 u254 u255 u256 u257 u258 u259 u260 u261 u262 u263 u264 u265 u266 u267 u268 u269 u270 u271 u272 u273 u274 u275 u276 u277 u278 u279 u280 u281 u282 u283 u284 u285 u286 u287 u288 u289 u290 u291 u292 u293 u294 u295 u296 u297 u298 u299 u300 u301 u302 u303 u304 u305 u306 u307 u308 u309 u310 u311 u312 u313 u314 u315 u316 u317 u318 u319 u320 u321 u322 u323 u324 u325 u326 u327 u328 u329 u330 u331 u332 u333 u334 u335 u336 u337 u338 u339 u340 u341 u342 u343 u344 u345 u346 u347 u348 u349 u350 u351 u352 u353 u354 u355 u356 u357 u358 u359 u360 u361 u362 u363 u364 u365 u366 u367 u368 u369 u370 u371 u372 u373 u374 u375 u376 u377 u378 u379 u380 u381 u382 u383 u384 u385 u386 u387 u388 u389 u390 u391 u392 u393 u394 u395 u396 u397 u398 u399 u400 u401 u402 u403 u404 u405 u406 u407 u408 u409 u410 u411 u412 u413 u414 u415 u416 u417 u418 u419 u420 u421 u422 u423 u424 u425 u426 u427 u428 u429 u430 u431 u432 u433 u434 u435 u436 u437 u438 u439 u440 u441 u442 u443 u444 u445 u446 u447 u448 u449 u450 u451 u452 u453 u454 u455 u456 u457 u458 u459 u460 u461 u462 u463 u464 u465 u466 u467 u468 u469 u470 u471 u472 u473 u474 u475 u476 u477 u478 u479 u480 u481 u482 u483 u484 u485 u486 u487 u488 u489 u490 u491 u492 u493 u494 u495 u496 u497 u498 u499 u500 u501 u502 u503 u504 u505 u506 u507 u508 u509 u510 u511 u512 u513 u514 u515 u516 u517 u518 u519 u520 u521 u522 u523 u524 u525 u526 u527 u528 u529 u530 u531 u532 u533 u534 u535 u536 u537 u538 u539 u540 u541 u542 u543 u544 u545 u546 u547 u548 u549 u550 u551 u552 u553 u554 u555 u556 u557 u558 u559 u560 u561 u562 u563 u564 u565 u566 u567 u568 u569 u570 u571 u572 u573 u574 u575 u576 u577 u578 u579 u580 u581 u582 u583 u584 u585 u586 u587 u588 u589 u590 u591 u592 u593 u594 u595 u596 u597 u598 u599 u600 u601 u602 u603 u604 u605 u606 u607 u608 u609 u610 u611 u612 u613 : Value} :
    Code.wp Ybaz.prog (lawTail 23) (bodyPost Ybaz.prog Ybaz.f3 fun e w' => e = Ending.returned (.bool true) ∧ Below w0.heap.size w0 w') { tmps := #[.bool true, .int .i64 byes, .int .u16 avg, .int .u8 S.pm, u4, u5, u6, u7, u8, u9, u10, u11, u12, u13, u14, u15, u16, u17, u18, u19, u20, u21, u22, u23, u24, u25, u26, u27, .slice (some ⟨g, 0, none⟩) L cap, .int .i64 (nby : Nat), u30, u31, u32, u33, u34, u35, .slice (some ⟨g2, 0, none⟩) L cap2, .map (some mb), u38, .slice (some ⟨kb, 0, none⟩) ks.length kc, u40, u41, u42, u43, .int .i64 S.snd, u45, u46, u47, u48, .pointer (some ⟨pb, 0, none⟩), .pointer (some ⟨nb, 0, none⟩), u51, .pointer (some ⟨b, 0, none⟩), u53, u54, u55, u56, u57, u58, u59, u60, u61, u62, u63, u64, u65, u66, u67, u68, u69, u70, u71, u72, u73, u74, u75, u76, u77, u78, u79, u80, u81, u82, u83, u84, u85, u86, u87, u88, u89, u90, u91, u92, u93, u94, u95, u96, u97, u98, u99, u100, u101, u102, u103, u104, u105, u106, u107, u108, u109, u110, u111, u112, u113, u114, u115, u116, u117, u118, u119, u120, u121, u122, u123, u124, u125, u126, u127, u128, u129, u130, u131, u132, u133, u134, u135, u136, u137, u138, u139, u140, u141, u142, u143, u144, u145, u146, u147, u148, u149, u150, u151, u152, u153, u154, u155, u156, u157, u158, u159, u160, u161, u162, u163, u164, u165, u166, u167, u168, u169, u170, u171, u172, u173, u174, u175, u176, u177, u178, u179, u180, u181, u182, u183, u184, u185, u186, u187, u188, u189, u190, u191, u192, u193, u194, u195, u196, u197, u198, u199, u200, u201, u202, u203, u204, u205, u206, u207, u208, u209, u210, u211, u212, u213, u214, u215, u216, u217, u218, u219, u220, u221, u222, u223, u224, u225, u226, u227, u228, u229, u230, u231, u232, u233, u234, u235, u236, u237, u238, u239, u240, u241, u242, u243, u244, u245, u246, u247, u248, u249, u250, u251, u252, u253, u254, u255, u256, u257, u258, u259, u260, u261, u262, u263, u264, u265, u266, u267, u268, u269, u270, u271, u272, u273, u274, u275, u276, u277, u278, u279, u280, u281, u282, u283, u284, u285, u286, u287, u288, u289, u290, u291, u292, u293, u294, u295, u296, u297, u298, u299, u300, u301, u302, u303, u304, u305, u306, u307, u308, u309, u310, u311, u312, u313, u314, u315, u316, u317, u318, u319, u320, u321, u322, u323, u324, u325, u326, u327, u328, u329, u330, u331, u332, u333, u334, u335, u336, u337, u338, u339, u340, u341, u342, u343, u344, u345, u346, u347, u348, u349, u350, u351, u352, u353, u354, u355, u356, u357, u358, u359, u360, u361, u362, u363, u364, u365, u366, u367, u368, u369, u370, u371, u372, u373, u374, u375, u376, u377, u378, u379, u380, u381, u382, u383, u384, u385, u386, u387, u388, u389, u390, u391, u392, u393, u394, u395, u396, u397, u398, u399, u400, u401, u402, u403, u404, u405, u406, u407, u408, u409, u410, u411, u412, u413, u414, u415, u416, u417, u418, u419, u420, u421, u422, u423, u424, u425, u426, u427, u428, u429, u430, u431, u432, u433, u434, u435, u436, u437, u438, u439, u440, u441, u442, u443, u444, u445, u446, u447, u448, u449, u450, u451, u452, u453, u454, u455, u456, u457, u458, u459, u460, u461, u462, u463, u464, u465, u466, u467, u468, u469, u470, u471, u472, u473, u474, u475, u476, u477, u478, u479, u480, u481, u482, u483, u484, u485, u486, u487, u488, u489, u490, u491, u492, u493, u494, u495, u496, u497, u498, u499, u500, u501, u502, u503, u504, u505, u506, u507, u508, u509, u510, u511, u512, u513, u514, u515, u516, u517, u518, u519, u520, u521, u522, u523, u524, u525, u526, u527, u528, u529, u530, u531, u532, u533, u534, u535, u536, u537, u538, u539, u540, u541, u542, u543, u544, u545, u546, u547, u548, u549, u550, u551, u552, u553, u554, u555, u556, u557, u558, u559, u560, u561, u562, u563, u564, u565, u566, u567, u568, u569, u570, u571, u572, u573, u574, u575, u576, u577, u578, u579, u580, u581, u582, u583, u584, u585, u586, u587, u588, u589, u590, u591, u592, u593, u594, u595, u596, u597, u598, u599, u600, u601, u602, u603, u604, u605, u606, u607, u608, u609, u610, u611, u612, u613], defers := [] } W := by
  have HB : Hid (Below w0.heap.size w0 W) := hB
  have HS : Hid (Stt W b S) := hS
  have HM1 : Hid (∃ c, mp W S.mb n1 c (vals f)) := hm1
  have HM2 : Hid (∃ c, mp W mb n2 c (vals f)) := hm2
  have HA : Hid (W.heap[pb]? = some (.cells #[.int .u64 S.tp.n, .int .i64 S.tp.s, .pointer none] 48)) := hA
  have HT : Hid (W.heap[nb]? = some (.cells #[.int .u64 S.tn.n, .int .i64 S.tn.s, .pointer none] 48)) := hT
  have HTP : Hid S.tp.ok := htp
  have HTN : Hid S.tn.ok := htn
  have HPM : Hid (IntKind.i64.wrap S.pm = S.pm) := hpm
  have HBY : Hid (IntKind.i64.wrap (byes + (nby : Nat)) = S.byes) := hby
  have HOK : Hid (MsOk f) := hok
  have HR : Hid (Row32 W kb ks) := hr
  have HKB : Hid (kb < W.heap.size) := hkb
  have HU : Hid (∀ k ∈ ks, u32ok k) := hu
  have HKL : Hid (ks.length ≤ 1000000) := hkl
  have HAV : Hid (S.avg = if nby = 0 then floatOfInt .f64 avg else avgF (floatOfInt .f64 avg) L) := hav
  have H1 : Hid (Row W g 0 bs) := h1
  have H2 : Hid (Row W g2 0 bs) := h2
  have HL : Hid (L = bs.length) := hL
  have HLL : Hid (L ≤ 10000000) := hLL
  have HNN : Hid (isNaN (floatOfInt .f64 avg) = false ∧ rg (floatOfInt .f64 avg) < INF) := ⟨u16_nan hav0 hav1, u16_lt hav0 hav1⟩
  have s0 : W.cell? ⟨b, 0, none⟩ = some (.float .f64 4652007308841189376) := cell_of hS
  have s1 : W.cell? ⟨b, 1, none⟩ = some .nilFunc := cell_of hS
  have s2 : W.cell? ⟨b, 2, none⟩ = some (.float .f64 S.avg) := cell_of hS
  have s3 : W.cell? ⟨b, 3, none⟩ = some (.bool true) := cell_of hS
  have s4 : W.cell? ⟨b, 4, none⟩ = some (.bool false) := cell_of hS
  have s14 : W.cell? ⟨b, 14, none⟩ = some (.bool true) := (cell_of hS).trans (by rw [← hlv]; rfl)
  have hnf := neq_nilF W
  have o0 : (FloatKind.f64.format.order 4652007308841189376 4652007308841189376 != some .eq) = false := by decide
  clear hB hS hlv hav hav0 hav1 h1 h2 hL hLL hA hT htp htn hby hpm hm1 hm2 hok hr hkb hu hkl
  conv => arg 2; whnf
  go_wp2_with fail
  go_at_call 10
  refine (bequal_any g L cap g2 cap2 bs W H1.out H2.out HL.out).mono ?_
  rintro e W1 ⟨rfl, hW⟩
  have hW1 := hW.symm
  subst hW1
  clear hW
  by_cases hn : nby = 0
  · subst hn
    have hav : S.avg = floatOfInt .f64 avg := by rw [HAV.out]; exact if_pos rfl
    rw [hav] at s2
    have o1 : (FloatKind.f64.format.order (floatOfInt .f64 avg) (floatOfInt .f64 avg) != some .eq) = false := by rw [order_self_ne]; exact HNN.out.1
    clear hav HAV
    go_upto_region 94 with fail
    refine reg94 b pb nb mb kb kc n1 n2 byes _ ks f S W HS.out HA.out HT.out HTP.out HTN.out HBY.out HPM.out HM1.out HM2.out HOK.out HR.out HKB.out HU.out HKL.out _ ?_
    intro _ _ _ _ _ _ _ _ _ _ _ _ _ _ _ _ _ _ _ _ _ _ _ _ _ _ _ _ _ _ _ _ _ _ _ _ _ _ _ _ _ _ _ _ _ _ _ _ _ _ W5 hb5
    have B5 : Hid (Below w0.heap.size w0 W5) := HB.out.trans (hb5.mono HB.out.size)
    clear hb5
    go_wp2_with fail
    go_ret
    exact ⟨rfl, B5.out⟩
  · have hav : S.avg = avgF (floatOfInt .f64 avg) L := by rw [HAV.out]; exact if_neg hn
    have hng : (0 : Int) < nby := by omega
    have E1 : IntKind.i64.wrap ((L : Int) + 28) = (L : Int) + 28 := by have := HLL.out; simp [IntKind.wrap, IntKind.bits, IntKind.signed]; omega
    obtain ⟨q1, q2, q3, q4⟩ : (_ ∧ _ ∧ _ ∧ _) := avg_bits (a := floatOfInt .f64 avg) (L := (L : Int)) HNN.out.2 (by have := HLL.out; omega)
    have r1 := det q1
    have r2 := det q2
    have r3 := det q3
    rw [hav] at s2
    have o1 : (FloatKind.f64.format.order (avgF (floatOfInt .f64 avg) L) (avgF (floatOfInt .f64 avg) L) != some .eq) = false := by rw [order_self_ne]; exact q4
    generalize avgF (floatOfInt .f64 avg) L = A at *
    unfold F16 at r2 r3
    clear hav HAV q1 q2 q3 q4 hn
    go_upto_region 94 with fail
    refine reg94 b pb nb mb kb kc n1 n2 byes _ ks f S W HS.out HA.out HT.out HTP.out HTN.out HBY.out HPM.out HM1.out HM2.out HOK.out HR.out HKB.out HU.out HKL.out _ ?_
    intro _ _ _ _ _ _ _ _ _ _ _ _ _ _ _ _ _ _ _ _ _ _ _ _ _ _ _ _ _ _ _ _ _ _ _ _ _ _ _ _ _ _ _ _ _ _ _ _ _ _ W5 hb5
    have B5 : Hid (Below w0.heap.size w0 W5) := HB.out.trans (hb5.mono HB.out.size)
    clear hb5
    go_wp2_with fail
    go_ret
    exact ⟨rfl, B5.out⟩
end Go.Proofs.YbulkdsruGreatDoor
