import Derived.Test.YbulkdsruGreatDoorR139
import Derived.Test.YbulkdsruGreatDoorR142
import Derived.Test.YbulkdsruGreatDoorR143
import Derived.Test.YbulkdsruGreatDoorR145
import Derived.Test.YbulkdsruGreatDoorSame
namespace Go.Proofs.YbulkdsruGreatDoor
open Go.RowKit Go.Op
set_option linter.unusedVariables false
set_option linter.unusedSimpArgs false
theorem recoS_snd (S : StV) (c p : Nat) (now : Tm) : (recoS S c p now).snd = S.snd := by unfold recoS; split <;> rfl
theorem recoS_mb (S : StV) (c p : Nat) (now : Tm) : (recoS S c p now).mb = S.mb := by unfold recoS; split <;> rfl
theorem recoS_byes (S : StV) (c p : Nat) (now : Tm) : (recoS S c p now).byes = S.byes := by unfold recoS; split <;> rfl
theorem recoS_avg (S : StV) (c p : Nat) (now : Tm) : (recoS S c p now).avg = S.avg := by unfold recoS; split <;> rfl
theorem recoS_lv (S : StV) (c p : Nat) (now : Tm) : (recoS S c p now).lv = S.lv := by unfold recoS; split <;> rfl
set_option maxRecDepth 100000 in
set_option maxHeartbeats 4000000 in
theorem tail33 (w0 : World) (b pb nb wb xb kb kc n1 n2 c p : Nat) (ks : List Int) (F : Ms) (S : StV) (now : Tm) (W : World) (hB : Below w0.heap.size w0 W) (hS : Stt W b (recoS S c p now)) (hm1 : mp W S.mb n1 c (vals F)) (hm2 : ∃ c, mp W xb n2 c (vals F)) (hok : MsOk F)
    (hA : W.heap[pb]? = some (.cells #[.int .u64 S.tp.n, .int .i64 S.tp.s, .pointer none] 48)) (hT : W.heap[nb]? = some (.cells #[.int .u64 S.tn.n, .int .i64 S.tn.s, .pointer none] 48)) (hN : W.heap[wb]? = some (.cells #[.int .u64 now.n, .int .i64 now.s, .pointer none] 48)) (htp : S.tp.ok) (htn : S.tn.ok) (hno : now.ok) (hpm : S.pm = p) (hp : p ≤ 255) (hc : c ≤ 100000)
    (hr : Row32 W kb ks) (hkb : kb < W.heap.size) (hu : ∀ k ∈ ks, u32ok k) (hkl : ks.length ≤ 1000000) {u0 u1 u2 u4 u5 u6 u7 u8 u9 u10 u11 u12 u13 u14 u15 u16 u17 u18 u19 u20 u21 u22 u23 u24 u25 u26 u27 u28 u29 u30 u31 u32 u33 u34 u35 u36 u37 u38 u40 u41 u42 u43 u44 u45 u46 u47 u48 u53 u56 u57 u58 u59 u60 u61 u62 u63 u64 u65 u66 u67 u68 u69 u70 u71 u72 u73 u74 u75 u76 u77 u78 u79 u80 u81 u82 u83 u84 u85 u86 u87 u88 u89 u90 u91 u92 u93 u94 u95 u96 u97 u98 u99 u100 u101 u102 u103 u104 u105 u106 u107 u108 u109 u110 u111 u112 u113 u114 u115 u116 u117 u118 u119 u120 u121 u122 u123 u124 u125 u126 u127 u128 u129 u130 u131 u132 u133 u134 u135 u136 u137 u138 u139 u140 u141 u142 u143 u144 u145 u146 u147 u148 u149 u150 u151 u152 u153 u154 u155 u156 u157 u158 u159 u160 u161 u162 u163 u164 u165 u166 u167 u168 u169 u170 u171 u172 u173 u174 u175 u176 u177 u178 u179 u180 u181 u182 u183 u184 u185 u186 u187 u188 u189 u190 u191 u192 u193 u194 u195 u196 u197 u198 u199 u200 u201 u202 u203 u204 u205 u206 u207 u208 u209 u210 u211 u212 u213 u214 u215 u216 u217 u218 u219 u220 u221 u222 u223 u224 u225 u226 u227 u228 u229 u230 u231 u232 u233 u234 u235 u236 u237 u238 u239 u240 u241 u242 u243 u244 u245 u246 u247 u248 u249 u250 u251 u252 u253 u254 u255 u256 u257 u258 u259 u260 u261 u262 u263 u264 u265 u266 u267 u268 u269 u270 u271 u272 u273 u274 u275 u276 u277 u278 u279 u280 u281 u282 u283 u284 u285 u286 u287 u288 u289 u290 u291 u292 u293 u294 u295 u296 u297 u298 u299 u300 u301 u302 u303 u304 u305 u306 u307 u308 u309 u310 u311 u312 u313 u314 u315 u316 u317 u318 u319 u320 u321 u322 u323 u324 u325 u326 u327 u328 u329 u330 u331 u332 u333 u334 u335 u336 u337 u338 u339 u340 u341 u342 u343 u344 u345 u346 u347 u348 u349 u350 u351 u352 u353 u354 u355 u356 u357 u358 u359 u360 u361 u362 u363 u364 u365 u366 u367 u368 u369 u370 u371 u372 u373 u374 u375 u376 u377 u378 u379 u380 u381 u382 u383 u384 u385 u386 u387 u388 u389 u390 u391 u392 u393 u394 u395 u396 u397 u398 u399 u400 u401 u402 u403 u404 u405 u406 u407 u408 u409 u410 u411 u412 u413 u414 u415 u416 u417 u418 u419 u420 u421 u422 u423 u424 u425 u426 u427 u428 u429 u430 u431 u432 u433 u434 u435 u436 u437 u438 u439 u440 u441 u442 u443 u444 u445 u446 u447 u448 u449 u450 u451 u452 u453 u454 u455 u456 u457 u458 u459 u460 u461 u462 u463 u464 u465 u466 u467 u468 u469 u470 u471 u472 u473 u474 u475 u476 u477 u478 u479 u480 u481 u482 u483 u484 u485 u486 u487 u488 u489 u490 u491 u492 u493 u494 u495 u496 u497 u498 u499 u500 u501 u502 u503 u504 u505 u506 u507 u508 u509 u510 u511 u512 u513 u514 u515 u516 u517 u518 u519 u520 u521 u522 u523 u524 u525 u526 u527 u528 u529 u530 u531 u532 u533 u534 u535 u536 u537 u538 u539 u540 u541 u542 u543 u544 u545 u546 u547 u548 u549 u550 u551 u552 u553 u554 u555 u556 u557 u558 u559 u560 u561 u562 u563 u564 u565 u566 u567 u568 u569 u570 u571 u572 u573 u574 u575 u576 u577 u578 u579 u580 u581 u582 u583 u584 u585 u586 u587 u588 u589 u590 u591 u592 u593 u594 u595 u596 u597 u598 u599 u600 u601 u602 u603 u604 u605 u606 u607 u608 u609 u610 u611 u612 u613 : Value} :
    Code.wp Ybaz.prog (lawTail 33) (bodyPost Ybaz.prog Ybaz.f3 fun e w' => e = Ending.returned (.bool true) ∧ Below w0.heap.size w0 w') { tmps := #[u0, u1, u2, .int .u8 (p : Nat), u4, u5, u6, u7, u8, u9, u10, u11, u12, u13, u14, u15, u16, u17, u18, u19, u20, u21, u22, u23, u24, u25, u26, u27, u28, u29, u30, u31, u32, u33, u34, u35, u36, u37, u38, .slice (some ⟨kb, 0, none⟩) ks.length kc, u40, u41, u42, u43, u44, u45, u46, u47, u48, .pointer (some ⟨pb, 0, none⟩), .pointer (some ⟨nb, 0, none⟩), .pointer (some ⟨wb, 0, none⟩), .pointer (some ⟨b, 0, none⟩), u53, .map (some xb), .int .i64 S.snd, u56, u57, u58, u59, u60, u61, u62, u63, u64, u65, u66, u67, u68, u69, u70, u71, u72, u73, u74, u75, u76, u77, u78, u79, u80, u81, u82, u83, u84, u85, u86, u87, u88, u89, u90, u91, u92, u93, u94, u95, u96, u97, u98, u99, u100, u101, u102, u103, u104, u105, u106, u107, u108, u109, u110, u111, u112, u113, u114, u115, u116, u117, u118, u119, u120, u121, u122, u123, u124, u125, u126, u127, u128, u129, u130, u131, u132, u133, u134, u135, u136, u137, u138, u139, u140, u141, u142, u143, u144, u145, u146, u147, u148, u149, u150, u151, u152, u153, u154, u155, u156, u157, u158, u159, u160, u161, u162, u163, u164, u165, u166, u167, u168, u169, u170, u171, u172, u173, u174, u175, u176, u177, u178, u179, u180, u181, u182, u183, u184, u185, u186, u187, u188, u189, u190, u191, u192, u193, u194, u195, u196, u197, u198, u199, u200, u201, u202, u203, u204, u205, u206, u207, u208, u209, u210, u211, u212, u213, u214, u215, u216, u217, u218, u219, u220, u221, u222, u223, u224, u225, u226, u227, u228, u229, u230, u231, u232, u233, u234, u235, u236, u237, u238, u239, u240, u241, u242, u243, u244, u245, u246, u247, u248, u249, u250, u251, u252, u253, u254, u255, u256, u257, u258, u259, u260, u261, u262, u263, u264, u265, u266, u267, u268, u269, u270, u271, u272, u273, u274, u275, u276, u277, u278, u279, u280, u281, u282, u283, u284, u285, u286, u287, u288, u289, u290, u291, u292, u293, u294, u295, u296, u297, u298, u299, u300, u301, u302, u303, u304, u305, u306, u307, u308, u309, u310, u311, u312, u313, u314, u315, u316, u317, u318, u319, u320, u321, u322, u323, u324, u325, u326, u327, u328, u329, u330, u331, u332, u333, u334, u335, u336, u337, u338, u339, u340, u341, u342, u343, u344, u345, u346, u347, u348, u349, u350, u351, u352, u353, u354, u355, u356, u357, u358, u359, u360, u361, u362, u363, u364, u365, u366, u367, u368, u369, u370, u371, u372, u373, u374, u375, u376, u377, u378, u379, u380, u381, u382, u383, u384, u385, u386, u387, u388, u389, u390, u391, u392, u393, u394, u395, u396, u397, u398, u399, u400, u401, u402, u403, u404, u405, u406, u407, u408, u409, u410, u411, u412, u413, u414, u415, u416, u417, u418, u419, u420, u421, u422, u423, u424, u425, u426, u427, u428, u429, u430, u431, u432, u433, u434, u435, u436, u437, u438, u439, u440, u441, u442, u443, u444, u445, u446, u447, u448, u449, u450, u451, u452, u453, u454, u455, u456, u457, u458, u459, u460, u461, u462, u463, u464, u465, u466, u467, u468, u469, u470, u471, u472, u473, u474, u475, u476, u477, u478, u479, u480, u481, u482, u483, u484, u485, u486, u487, u488, u489, u490, u491, u492, u493, u494, u495, u496, u497, u498, u499, u500, u501, u502, u503, u504, u505, u506, u507, u508, u509, u510, u511, u512, u513, u514, u515, u516, u517, u518, u519, u520, u521, u522, u523, u524, u525, u526, u527, u528, u529, u530, u531, u532, u533, u534, u535, u536, u537, u538, u539, u540, u541, u542, u543, u544, u545, u546, u547, u548, u549, u550, u551, u552, u553, u554, u555, u556, u557, u558, u559, u560, u561, u562, u563, u564, u565, u566, u567, u568, u569, u570, u571, u572, u573, u574, u575, u576, u577, u578, u579, u580, u581, u582, u583, u584, u585, u586, u587, u588, u589, u590, u591, u592, u593, u594, u595, u596, u597, u598, u599, u600, u601, u602, u603, u604, u605, u606, u607, u608, u609, u610, u611, u612, u613], defers := [] } W := by
  have HB : Hid (Below w0.heap.size w0 W) := hB
  have HS : Hid (Stt W b (recoS S c p now)) := hS
  have HM1 : Hid (mp W S.mb n1 c (vals F)) := hm1
  obtain ⟨c2, hm2⟩ := hm2
  have hcc : c2 = c := mp_size_eq hm2 hm1 (fun _ _ => rfl)
  subst hcc
  have HM2 : Hid (mp W xb n2 c2 (vals F)) := hm2
  have HA : Hid (W.heap[pb]? = some (.cells #[.int .u64 S.tp.n, .int .i64 S.tp.s, .pointer none] 48)) := hA
  have HT : Hid (W.heap[nb]? = some (.cells #[.int .u64 S.tn.n, .int .i64 S.tn.s, .pointer none] 48)) := hT
  have HN : Hid (W.heap[wb]? = some (.cells #[.int .u64 now.n, .int .i64 now.s, .pointer none] 48)) := hN
  have HTP : Hid S.tp.ok := htp
  have HTN : Hid S.tn.ok := htn
  have HNO : Hid now.ok := hno
  have HPM : Hid (S.pm = p) := hpm
  have HP : Hid (p ≤ 255) := hp
  have HOK : Hid (MsOk F) := hok
  have HR : Hid (Row32 W kb ks) := hr
  have HKB : Hid (kb < W.heap.size) := hkb
  have HU : Hid (∀ k ∈ ks, u32ok k) := hu
  have HKL : Hid (ks.length ≤ 1000000) := hkl
  have HWW : Hid (w0.heap.size ≤ W.heap.size) := hB.size
  have s6 : W.cell? ⟨b, 6, none⟩ = some (.int .i64 S.snd) := (cell_of hS).trans (by rw [← recoS_snd S c2 p now]; rfl)
  have s5 : W.cell? ⟨b, 5, none⟩ = some (.map (some S.mb)) := (cell_of hS).trans (by rw [← recoS_mb S c2 p now]; rfl)
  clear hB hS hm1 hm2 hA hT hN htp htn hno hpm hok hr hkb hu hkl
  conv => arg 2; whnf
  go_wp2_with fail
  go_at_call 12
  refine (same_any S.mb xb n1 n2 c2 c2 kb kc ks F W HM1.out HM2.out HOK.out HR.out HKB.out HU.out HKL.out).mono ?_
  rintro e W1 ⟨rfl, hb1⟩
  have B1 : Hid (Below W.heap.size W W1) := hb1
  have hln := fun ty => mp_len (mp_below HM2.out hb1 (mp_lt HM2.out)) Ybaz.underlying41 ty
  have E1 : IntKind.i64.wrap ((c2 : Int) + 1) = (c2 : Int) + 1 := by simp [IntKind.wrap, IntKind.bits, IntKind.signed]; omega
  clear hb1 s5 s6
  go_upto_region 139 with fail
  refine reg139 pb nb p S.tp S.tn W1 ((B1.out.block pb (Array.getElem?_eq_some_iff.1 HA.out).1).trans HA.out) ((B1.out.block nb (Array.getElem?_eq_some_iff.1 HT.out).1).trans HT.out) (by omega) (by omega) _ ?_
  intro q0 q1 _ _ _ _ W2 hb2 hq01 hq0 hq1 hQ0 hQ1
  have B2 : Hid (Below W.heap.size W W2) := B1.out.trans (hb2.mono B1.out.size)
  have HQ0 : Hid (W2.heap[q0]? = some (.cells #[.int .u64 S.tp.n, .int .i64 S.tp.s, .pointer none] 48)) := hQ0
  have HQ1 : Hid (W2.heap[q1]? = some (.cells #[.int .u64 S.tn.n, .int .i64 S.tn.s, .pointer none] 48)) := hQ1
  have HQ : Hid (q0 ≠ q1 ∧ W.heap.size ≤ q0 ∧ W.heap.size ≤ q1) := ⟨hq01, Nat.le_trans B1.out.size hq0, Nat.le_trans B1.out.size hq1⟩
  have S2 : Hid (Stt W2 b (recoS S c2 p now)) := (B2.out.block b HS.out.lt).trans HS.out
  have A2 : Hid (W2.heap[pb]? = some (.cells #[.int .u64 S.tp.n, .int .i64 S.tp.s, .pointer none] 48)) := (B2.out.block pb (Array.getElem?_eq_some_iff.1 HA.out).1).trans HA.out
  have T2 : Hid (W2.heap[nb]? = some (.cells #[.int .u64 S.tn.n, .int .i64 S.tn.s, .pointer none] 48)) := (B2.out.block nb (Array.getElem?_eq_some_iff.1 HT.out).1).trans HT.out
  have N2 : Hid (W2.heap[wb]? = some (.cells #[.int .u64 now.n, .int .i64 now.s, .pointer none] 48)) := (B2.out.block wb (Array.getElem?_eq_some_iff.1 HN.out).1).trans HN.out
  have HLS : Hid (b < W.heap.size ∧ pb < W.heap.size ∧ nb < W.heap.size ∧ wb < W.heap.size) := ⟨HS.out.lt, (Array.getElem?_eq_some_iff.1 HA.out).1, (Array.getElem?_eq_some_iff.1 HT.out).1, (Array.getElem?_eq_some_iff.1 HN.out).1⟩
  clear hb2 hq01 hq0 hq1 hQ0 hQ1 hln
  by_cases hlt : c2 + 1 < p
  · have HLT : Hid (c2 + 1 < p) := hlt
    have ER : Hid (recoS S c2 p now = { S with tn := now.add (closer (c2 + 1) p (S.tn.sub now)), tp := now.add (negW (closer (c2 + 1) p (now.sub S.tp))), pm := (c2 : Int) + 1 }) := by show recoS S c2 p now = _; unfold recoS; rw [if_pos hlt]
    have hq := det (frac_bits HP.out hlt).1
    obtain ⟨mm, ha⟩ : ∃ mm, c2 + 1 = mm := ⟨_, rfl⟩
    have ea : ((c2 : Int) + 1) = (mm : Int) := by omega
    rw [ha] at hq ER HLT
    rw [ea] at ER E1 ⊢
    have hlt2 : (mm : Int) < p := by have := HLT.out; omega
    clear ha hlt
    go_upto_region 142 with fail
    refine reg142 wb nb q1 mm p now S.tn S.tn W2 N2.out T2.out HQ1.out HP.out HLT.out HNO.out HTN.out _ ?_
    intro _ _ _ _ _ _ _ _ _ W3 hQ3 hT3
    have HQ3 : Hid (W3.heap[q1]? = _) := hQ3
    have S3 : Hid (Stt W3 b (recoS S c2 p now)) := (hT3.block b S2.out.lt (by have := HQ.out; have := HLS.out; omega) (by have := HQ.out; have := HLS.out; omega)).trans S2.out
    have A3 : Hid (W3.heap[pb]? = some (.cells #[.int .u64 S.tp.n, .int .i64 S.tp.s, .pointer none] 48)) := (hT3.block pb (Array.getElem?_eq_some_iff.1 A2.out).1 (by have := HQ.out; have := HLS.out; omega) (by have := HQ.out; have := HLS.out; omega)).trans A2.out
    have N3 : Hid (W3.heap[wb]? = some (.cells #[.int .u64 now.n, .int .i64 now.s, .pointer none] 48)) := (hT3.block wb (Array.getElem?_eq_some_iff.1 N2.out).1 (by have := HQ.out; have := HLS.out; omega) (by have := HQ.out; have := HLS.out; omega)).trans N2.out
    have Q3 : Hid (W3.heap[q0]? = some (.cells #[.int .u64 S.tp.n, .int .i64 S.tp.s, .pointer none] 48)) := (hT3.block q0 (Array.getElem?_eq_some_iff.1 HQ0.out).1 HQ.out.1 HQ.out.1).trans HQ0.out
    have B3 : Hid (Below w0.heap.size w0 W3) := (HB.out.trans (B2.out.mono HWW.out)).trans (hT3.to_below (Nat.le_trans HWW.out B2.out.size) (by have := HQ.out; have := HWW.out; omega) (by have := HQ.out; have := HWW.out; omega))
    clear hQ3 hT3
    go_upto_region 143 with fail
    refine reg143 wb pb q0 mm p now S.tp S.tp W3 N3.out A3.out Q3.out HP.out HLT.out HNO.out HTP.out _ ?_
    intro _ _ _ _ _ _ _ _ _ _ W4 hQ4 hT4
    have HQ4 : Hid (W4.heap[q0]? = _) := hQ4
    have S4 : Hid (Stt W4 b (recoS S c2 p now)) := (hT4.block b S3.out.lt (by have := HQ.out; have := HLS.out; omega) (by have := HQ.out; have := HLS.out; omega)).trans S3.out
    have Q4 : Hid (W4.heap[q1]? = _) := (hT4.block q1 (Array.getElem?_eq_some_iff.1 HQ3.out).1 HQ.out.1.symm HQ.out.1.symm).trans HQ3.out
    have B4 : Hid (Below w0.heap.size w0 W4) := B3.out.trans (hT4.to_below B3.out.size (by have := HQ.out; have := HWW.out; omega) (by have := HQ.out; have := HWW.out; omega))
    rw [ER.out] at S4
    clear hQ4 hT4
    go_upto_region 145 with fail
    refine reg145 b q0 q1 _ W4 S4.out HQ4.out Q4.out (Tm.add_ok HNO.out _) (Tm.add_ok HNO.out _) _ ?_
    intro _ _ _ _ _ _ _ _ _ _ _ _ _ _ _ _ _ _ _ _ _ _ W5 hb5
    have B5 : Hid (Below w0.heap.size w0 W5) := B4.out.trans (hb5.mono B4.out.size)
    clear hb5
    go_wp2_with fail
    go_ret
    exact ⟨rfl, B5.out⟩
  · have ER : Hid (recoS S c2 p now = S) := by show recoS S c2 p now = _; unfold recoS; rw [if_neg hlt]
    rw [ER.out] at S2
    have hlt2 : ¬ ((c2 : Int) + 1) < p := by omega
    have hpp : ((p : Nat) : Int) = S.pm := HPM.out.symm
    clear hlt
    go_upto_region 145 with fail
    rw [hpp]
    refine reg145 b q0 q1 S W2 S2.out HQ0.out HQ1.out HTP.out HTN.out _ ?_
    intro _ _ _ _ _ _ _ _ _ _ _ _ _ _ _ _ _ _ _ _ _ _ W5 hb5
    have B5 : Hid (Below w0.heap.size w0 W5) := (HB.out.trans (B2.out.mono HWW.out)).trans (hb5.mono (Nat.le_trans HWW.out B2.out.size))
    clear hb5 hpp hlt2
    go_wp2_with fail
    go_ret
    exact ⟨rfl, B5.out⟩
end Go.Proofs.YbulkdsruGreatDoor
