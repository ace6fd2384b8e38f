import Derived.Test.YbulkdsruGreatDoorT23L
namespace Go.Proofs.YbulkdsruGreatDoor
open Go.RowKit Go.Op
set_option linter.unusedVariables false
set_option linter.unusedSimpArgs false
theorem vals_none : vals (fun _ => none) = fun _ => none := rfl
set_option maxRecDepth 100000 in
set_option maxHeartbeats 4000000 in
theorem tail23S (w0 : World) (b pb nb wb mb ge ec kb kc n0 n1 c p g g2 cap cap2 L : Nat) (byes avg : Int) (ks : List Int) (bs : List Int) (es : List (Int × Int)) (f0 : Ms) (S : StV) (now : Tm) (W : World) (hB : Below w0.heap.size w0 W) (hS : Stt W b (recoS S c p now)) (hlv : S.lv = false) (hav0 : 0 ≤ avg) (hav1 : avg ≤ 65535)
    (hav : S.avg = avgF (floatOfInt .f64 avg) L) (h1 : Row W g 0 bs) (h2 : Row W g2 0 bs) (hL : L = bs.length) (hLL : L ≤ 10000000) (hby : S.byes = byes) (hsn : S.snd = (cntS (run now f0 es) ks : Nat))
    (hA : W.heap[pb]? = some (.cells #[.int .u64 S.tp.n, .int .i64 S.tp.s, .pointer none] 48)) (hT : W.heap[nb]? = some (.cells #[.int .u64 S.tn.n, .int .i64 S.tn.s, .pointer none] 48)) (hN : W.heap[wb]? = some (.cells #[.int .u64 now.n, .int .i64 now.s, .pointer none] 48)) (htp : S.tp.ok) (htn : S.tn.ok) (hno : now.ok) (hpm : S.pm = p) (hp : p ≤ 255)
    (hm1 : mp W S.mb n1 c (vals (run now f0 es))) (hm2 : ∃ c, mp W mb n0 c (vals f0)) (hok : MsOk (run now f0 es)) (hwi : Within (run now f0 es) ks) (hE : RowE W ge es) (hge : ge < W.heap.size) (hel : es.length ≤ 2000) (hk3 : ∀ e ∈ es, e.1 = 0 ∨ e.1 = 1 ∨ e.1 = 2)
    (hr : Row32 W kb ks) (hkb : kb < W.heap.size) (hu : ∀ k ∈ ks, u32ok k) (hnd : ks.Nodup) (hkl : ks.length ≤ 5000) {u4 u5 u6 u7 u8 u9 u10 u11 u12 u13 u14 u15 u16 u17 u18 u19 u20 u21 u22 u23 u24 u25 u26 u29 u30 u31 u32 u33 u34 u35 u38 u40 u41 u42 u43 u44 u45 u46 u47 u48 u53 u54 u55 u56 u57 u58 u59 u60 u61 u62 u63 u64 u65 u66 u67 u68 u69 u70 u71 u72 u73 u74 u75 u76 u77 u78 u79 u80 u81 u82 u83 u84 u85 u86 u87 u88 u89 u90 u91 u92 u93 u94 u95 u96 u97 u98 u99 u100 u101 u102 u103 u104 u105 u106 u107 u108 u109 u110 u111 u112 u113 u114 u115 u116 u117 u118 u119 u120 u121 u122 u123 u124 u125 u126 u127 u128 u129 u130 u131 u132 u133 u134 u135 u136 u137 u138 u139 u140 u141 u142 u143 u144 u145 u146 u147 u148 u149 u150 u151 u152 u153 u154 u155 u156 u157 u158 u159 u160 u161 u162 u163 u164 u165 u166 u167 u168 u169 u170 u171 u172 u173 u174 u175 u176 u177 u178 u179 u180 u181 u182 u183 u184 u185 u186 u187 u188 u189 u190 u191 u192 u193 u194 u195 u196 u197 u198 u199 u200 u201 u202 u203 u204 u205 u206 u207 u208 u209 u210 u211 u212 u213 u214 u215 u216 u217 u218 u219 u220 u221 u222 u223 u224 u225 u226 u227 u228 u229 u230 u231 u232 u233 u234 u235 u236 u237 u238 u239 u240 u241 u242 u243 u244 u245 u246 u247 u248 u249 u250 u251 u252 u253 u254 u255 u256 u257 u258 u259 u260 u261 u262 u263 u264 u265 u266 u267 u268 u269 u270 u271 u272 u273 u274 u275 u276 u277 u278 u279 u280 u281 u282 u283 u284 u285 u286 u287 u288 u289 u290 u291 u292 u293 u294 u295 u296 u297 u298 u299 u300 u301 u302 u303 u304 u305 u306 u307 u308 u309 u310 u311 u312 u313 u314 u315 u316 u317 u318 u319 u320 u321 u322 u323 u324 u325 u326 u327 u328 u329 u330 u331 u332 u333 u334 u335 u336 u337 u338 u339 u340 u341 u342 u343 u344 u345 u346 u347 u348 u349 u350 u351 u352 u353 u354 u355 u356 u357 u358 u359 u360 u361 u362 u363 u364 u365 u366 u367 u368 u369 u370 u371 u372 u373 u374 u375 u376 u377 u378 u379 u380 u381 u382 u383 u384 u385 u386 u387 u388 u389 u390 u391 u392 u393 u394 u395 u396 u397 u398 u399 u400 u401 u402 u403 u404 u405 u406 u407 u408 u409 u410 u411 u412 u413 u414 u415 u416 u417 u418 u419 u420 u421 u422 u423 u424 u425 u426 u427 u428 u429 u430 u431 u432 u433 u434 u435 u436 u437 u438 u439 u440 u441 u442 u443 u444 u445 u446 u447 u448 u449 u450 u451 u452 u453 u454 u455 u456 u457 u458 u459 u460 u461 u462 u463 u464 u465 u466 u467 u468 u469 u470 u471 u472 u473 u474 u475 u476 u477 u478 u479 u480 u481 u482 u483 u484 u485 u486 u487 u488 u489 u490 u491 u492 u493 u494 u495 u496 u497 u498 u499 u500 u501 u502 u503 u504 u505 u506 u507 u508 u509 u510 u511 u512 u513 u514 u515 u516 u517 u518 u519 u520 u521 u522 u523 u524 u525 u526 u527 u528 u529 u530 u531 u532 u533 u534 u535 u536 u537 u538 u539 u540 u541 u542 u543 u544 u545 u546 u547 u548 u549 u550 u551 u552 u553 u554 u555 u556 u557 u558 u559 u560 u561 u562 u563 u564 u565 u566 u567 u568 u569 u570 u571 u572 u573 u574 u575 u576 u577 u578 u579 u580 u581 u582 u583 u584 u585 u586 u587 u588 u589 u590 u591 u592 u593 u594 u595 u596 u597 u598 u599 u600 u601 u602 u603 u604 u605 u606 u607 u608 u609 u610 u611 u612 u613 : Value} :
    Code.wp Ybaz.prog (lawTail 23) (bodyPost Ybaz.prog Ybaz.f3 fun e w' => e = Ending.returned (.bool true) ∧ Below w0.heap.size w0 w') { tmps := #[.bool false, .int .i64 byes, .int .u16 avg, .int .u8 (p : Nat), u4, u5, u6, u7, u8, u9, u10, u11, u12, u13, u14, u15, u16, u17, u18, u19, u20, u21, u22, u23, u24, u25, u26, .slice (some ⟨ge, 0, none⟩) es.length ec, .slice (some ⟨g, 0, none⟩) L cap, u29, u30, u31, u32, u33, u34, u35, .slice (some ⟨g2, 0, none⟩) L cap2, .map (some mb), u38, .slice (some ⟨kb, 0, none⟩) ks.length kc, u40, u41, u42, u43, u44, u45, u46, u47, u48, .pointer (some ⟨pb, 0, none⟩), .pointer (some ⟨nb, 0, none⟩), .pointer (some ⟨wb, 0, none⟩), .pointer (some ⟨b, 0, none⟩), u53, u54, u55, u56, u57, u58, u59, u60, u61, u62, u63, u64, u65, u66, u67, u68, u69, u70, u71, u72, u73, u74, u75, u76, u77, u78, u79, u80, u81, u82, u83, u84, u85, u86, u87, u88, u89, u90, u91, u92, u93, u94, u95, u96, u97, u98, u99, u100, u101, u102, u103, u104, u105, u106, u107, u108, u109, u110, u111, u112, u113, u114, u115, u116, u117, u118, u119, u120, u121, u122, u123, u124, u125, u126, u127, u128, u129, u130, u131, u132, u133, u134, u135, u136, u137, u138, u139, u140, u141, u142, u143, u144, u145, u146, u147, u148, u149, u150, u151, u152, u153, u154, u155, u156, u157, u158, u159, u160, u161, u162, u163, u164, u165, u166, u167, u168, u169, u170, u171, u172, u173, u174, u175, u176, u177, u178, u179, u180, u181, u182, u183, u184, u185, u186, u187, u188, u189, u190, u191, u192, u193, u194, u195, u196, u197, u198, u199, u200, u201, u202, u203, u204, u205, u206, u207, u208, u209, u210, u211, u212, u213, u214, u215, u216, u217, u218, u219, u220, u221, u222, u223, u224, u225, u226, u227, u228, u229, u230, u231, u232, u233, u234, u235, u236, u237, u238, u239, u240, u241, u242, u243, u244, u245, u246, u247, u248, u249, u250, u251, u252, u253, u254, u255, u256, u257, u258, u259, u260, u261, u262, u263, u264, u265, u266, u267, u268, u269, u270, u271, u272, u273, u274, u275, u276, u277, u278, u279, u280, u281, u282, u283, u284, u285, u286, u287, u288, u289, u290, u291, u292, u293, u294, u295, u296, u297, u298, u299, u300, u301, u302, u303, u304, u305, u306, u307, u308, u309, u310, u311, u312, u313, u314, u315, u316, u317, u318, u319, u320, u321, u322, u323, u324, u325, u326, u327, u328, u329, u330, u331, u332, u333, u334, u335, u336, u337, u338, u339, u340, u341, u342, u343, u344, u345, u346, u347, u348, u349, u350, u351, u352, u353, u354, u355, u356, u357, u358, u359, u360, u361, u362, u363, u364, u365, u366, u367, u368, u369, u370, u371, u372, u373, u374, u375, u376, u377, u378, u379, u380, u381, u382, u383, u384, u385, u386, u387, u388, u389, u390, u391, u392, u393, u394, u395, u396, u397, u398, u399, u400, u401, u402, u403, u404, u405, u406, u407, u408, u409, u410, u411, u412, u413, u414, u415, u416, u417, u418, u419, u420, u421, u422, u423, u424, u425, u426, u427, u428, u429, u430, u431, u432, u433, u434, u435, u436, u437, u438, u439, u440, u441, u442, u443, u444, u445, u446, u447, u448, u449, u450, u451, u452, u453, u454, u455, u456, u457, u458, u459, u460, u461, u462, u463, u464, u465, u466, u467, u468, u469, u470, u471, u472, u473, u474, u475, u476, u477, u478, u479, u480, u481, u482, u483, u484, u485, u486, u487, u488, u489, u490, u491, u492, u493, u494, u495, u496, u497, u498, u499, u500, u501, u502, u503, u504, u505, u506, u507, u508, u509, u510, u511, u512, u513, u514, u515, u516, u517, u518, u519, u520, u521, u522, u523, u524, u525, u526, u527, u528, u529, u530, u531, u532, u533, u534, u535, u536, u537, u538, u539, u540, u541, u542, u543, u544, u545, u546, u547, u548, u549, u550, u551, u552, u553, u554, u555, u556, u557, u558, u559, u560, u561, u562, u563, u564, u565, u566, u567, u568, u569, u570, u571, u572, u573, u574, u575, u576, u577, u578, u579, u580, u581, u582, u583, u584, u585, u586, u587, u588, u589, u590, u591, u592, u593, u594, u595, u596, u597, u598, u599, u600, u601, u602, u603, u604, u605, u606, u607, u608, u609, u610, u611, u612, u613], defers := [] } W := by
  have HB : Hid (Below w0.heap.size w0 W) := hB
  have HS : Hid (Stt W b (recoS S c p now)) := hS
  have HM1 : Hid (mp W S.mb n1 c (vals (run now f0 es))) := hm1
  have HM2 : Hid (∃ c, mp W mb n0 c (vals f0)) := hm2
  have HA : Hid (W.heap[pb]? = some (.cells #[.int .u64 S.tp.n, .int .i64 S.tp.s, .pointer none] 48)) := hA
  have HT : Hid (W.heap[nb]? = some (.cells #[.int .u64 S.tn.n, .int .i64 S.tn.s, .pointer none] 48)) := hT
  have HN : Hid (W.heap[wb]? = some (.cells #[.int .u64 now.n, .int .i64 now.s, .pointer none] 48)) := hN
  have HTP : Hid S.tp.ok := htp
  have HTN : Hid S.tn.ok := htn
  have HNO : Hid now.ok := hno
  have HPM : Hid (S.pm = p ∧ p ≤ 255) := ⟨hpm, hp⟩
  have HOK : Hid (MsOk (run now f0 es)) := hok
  have HWI : Hid (Within (run now f0 es) ks) := hwi
  have HE : Hid (RowE W ge es ∧ ge < W.heap.size ∧ es.length ≤ 2000 ∧ (∀ e ∈ es, e.1 = 0 ∨ e.1 = 1 ∨ e.1 = 2)) := ⟨hE, hge, hel, hk3⟩
  have HR : Hid (Row32 W kb ks) := hr
  have HKB : Hid (kb < W.heap.size) := hkb
  have HU : Hid (∀ k ∈ ks, u32ok k) := hu
  have HND : Hid (ks.Nodup) := hnd
  have HKL : Hid (ks.length ≤ 5000) := hkl
  have HSN : Hid (S.snd = (cntS (run now f0 es) ks : Nat)) := hsn
  have H1 : Hid (Row W g 0 bs) := h1
  have H2 : Hid (Row W g2 0 bs) := h2
  have HL : Hid (L = bs.length) := hL
  have HLL : Hid (L ≤ 10000000) := hLL
  have HNN : Hid (isNaN (floatOfInt .f64 avg) = false ∧ rg (floatOfInt .f64 avg) < INF) := ⟨u16_nan hav0 hav1, u16_lt hav0 hav1⟩
  have s0 : W.cell? ⟨b, 0, none⟩ = some (.float .f64 4652007308841189376) := cell_of hS
  have s1 : W.cell? ⟨b, 1, none⟩ = some .nilFunc := cell_of hS
  have s2 : W.cell? ⟨b, 2, none⟩ = some (.float .f64 (avgF (floatOfInt .f64 avg) L)) := (cell_of hS).trans (by rw [← hav, ← recoS_avg S c p now]; rfl)
  have s3 : W.cell? ⟨b, 3, none⟩ = some (.bool true) := cell_of hS
  have s4 : W.cell? ⟨b, 4, none⟩ = some (.bool false) := cell_of hS
  have s14 : W.cell? ⟨b, 14, none⟩ = some (.bool false) := (cell_of hS).trans (by rw [← hlv, ← recoS_lv S c p now]; rfl)
  have s15 : W.cell? ⟨b, 15, none⟩ = some (.int .i64 byes) := (cell_of hS).trans (by rw [← hby, ← recoS_byes S c p now]; rfl)
  have hnf := neq_nilF W
  have hmk : ∀ w : World, (Instr.makeMap 41 none).run Ybaz.prog w = .ok (.map (some w.heap.size)) (w.alloc (.map #[] 0)) := fun _ => rfl
  have o0 : (FloatKind.f64.format.order 4652007308841189376 4652007308841189376 != some .eq) = false := by decide
  have E1 : IntKind.i64.wrap ((L : Int) + 28) = (L : Int) + 28 := by simp [IntKind.wrap, IntKind.bits, IntKind.signed]; omega
  obtain ⟨q1, q2, q3, q4⟩ : (_ ∧ _ ∧ _ ∧ _) := avg_bits (a := floatOfInt .f64 avg) (L := (L : Int)) HNN.out.2 (by omega)
  have r1 := det q1
  have r2 := det q2
  have r3 := det q3
  have o1 : (FloatKind.f64.format.order (avgF (floatOfInt .f64 avg) L) (avgF (floatOfInt .f64 avg) L) != some .eq) = false := by rw [order_self_ne]; exact q4
  unfold F16 at r2 r3
  clear hB hS hlv hav hav0 hav1 h1 h2 hL hLL hby hsn hA hT hN htp htn hno hpm hp hm1 hm2 hok hwi hE hge hel hk3 hr hkb hu hnd hkl
  generalize avgF (floatOfInt .f64 avg) L = A at *
  clear q1 q2 q3 q4
  conv => arg 2; whnf
  go_wp2_with fail
  go_at_call 10
  refine (bequal_any g L cap g2 cap2 bs W H1.out H2.out HL.out).mono ?_
  rintro e W1 ⟨rfl, hW⟩
  have hW1 := hW.symm
  subst hW1
  clear hW
  go_upto_block 13 with fail
  have HB1 : Hid (Below W.heap.size W (W.alloc (.map #[] 0))) := (Below.refl _ W).alloc (Nat.le_refl _) _
  have HS7 : Hid (S7 mb W.heap.size wb ge n0 0 now f0 (fun _ => none) es (W.alloc (.map #[] 0))) := by
    obtain ⟨c2, hm2⟩ := HM2.out
    exact ⟨⟨c2, mp_below hm2 HB1.out (mp_lt hm2)⟩, ⟨_, mp_made W⟩, (HB1.out.block wb (Array.getElem?_eq_some_iff.1 HN.out).1).trans HN.out, HE.out.1.below HB1.out HE.out.2.1, Nat.lt_of_lt_of_le HE.out.2.1 HB1.out.size, Nat.ne_of_lt (mp_lt hm2), Nat.ne_of_lt HE.out.2.1, Nat.ne_of_lt (Array.getElem?_eq_some_iff.1 HN.out).1⟩
  have HR1 : Hid (Row32 (W.alloc (.map #[] 0)) kb ks) := HR.out.below HB1.out HKB.out
  generalize hWA : W.alloc (.map #[] 0) = WA at *
  clear hWA s0 s1 s2 s3 s4 s14 s15 hnf hmk o0 o1 E1 r1 r2 r3
  rename_i Q1 K1 hK1
  refine loop7 mb W.heap.size wb ge kb es.length ec ks.length kc n0 now f0 es ks WA HS7.out rfl HE.out.2.2.1 rfl HKL.out HE.out.2.2.2 HR1.out (Nat.lt_of_lt_of_le HKB.out HB1.out.size) (Nat.ne_of_lt HKB.out) HU.out HND.out _ _ ?_
  intro _ _ _ _ _ _ _ _ _ _ _ _ _ _ _ _ _ _ _ _ _ _ _ _ _ _ _ _ _ _ _ _ _ _ _ _ _ _ _ _ _ _ _ _ _ _ _ _ _ _ _ _ _ _ _ _ _ _ _ _ _ _ _ _ _ _ _ _ _ _ _ _ _ _ _ _ _ _ _ _ _ _ _ _ _ _ _ _ _ _ _ _ _ _ _ _ _ _ _ _ _ _ _ _ _ _ _ _ _ _ _ _ _ _ _ _ W2 hS2 hT2

  refine hK1 _ _ ?_
  have hbk : ∀ k, k < W.heap.size → W2.heap[k]? = W.heap[k]? := fun k hk => (hT2.block k (Nat.lt_of_lt_of_le hk HB1.out.size) (Nat.ne_of_lt hk) (Nat.ne_of_lt hk)).trans (HB1.out.block k hk)
  have hB2 : Below w0.heap.size w0 W2 := (HB.out.trans (HB1.out.mono HB.out.size)).trans (hT2.to_below (Nat.le_trans HB.out.size HB1.out.size) HB.out.size HB.out.size)
  have hx := hS2.exp
  rw [only_all HWI.out] at hx
  have hmm : mp W2 S.mb n1 c (vals (run now f0 es)) := mp_block HM1.out (hbk _ (mp_lt HM1.out))
  have hcl : c ≤ 100000 := by
    obtain ⟨c2, hx2⟩ := hx
    have e1 := mp_size_eq hx2 hmm (fun _ _ => rfl)
    have e2 := mp_size_le hx2
    have e3 := HKL.out
    omega
  rw [← HSN.out]
  exact tail33 w0 b pb nb wb W.heap.size kb kc n1 ks.length c p ks (run now f0 es) S now W2 hB2 ((hbk b HS.out.lt).trans HS.out) (mp_block HM1.out (hbk _ (mp_lt HM1.out))) hx HOK.out
    ((hbk pb (Array.getElem?_eq_some_iff.1 HA.out).1).trans HA.out) ((hbk nb (Array.getElem?_eq_some_iff.1 HT.out).1).trans HT.out) hS2.nw HTP.out HTN.out HNO.out HPM.out.1 HPM.out.2 hcl
    (fun i v hv => (World.cell?_of_block (hbk kb HKB.out)).trans (HR.out i v hv)) (Nat.lt_of_lt_of_le HKB.out (Nat.le_trans HB1.out.size hT2.size)) HU.out (Nat.le_trans HKL.out (by decide))
end Go.Proofs.YbulkdsruGreatDoor
