import Derived.Test.YbulkdsruGreatDoorT20
import Derived.Test.YbulkdsruGreatDoorLq
import Derived.Test.YbulkdsruGreatDoorL4b
import Derived.Test.YbulkdsruGreatDoorL5
import Derived.Test.YbulkdsruGreatDoorL6
namespace Go.Proofs.YbulkdsruGreatDoor
open Go.RowKit Go.Op
set_option linter.unusedVariables false
set_option linter.unusedSimpArgs false
set_option maxRecDepth 100000 in
set_option maxHeartbeats 4000000 in
theorem tail10 (w0 : World) (ci p : Nat) (byes avg dp dn dw : Int) (lv : Bool) (ps : List Pk) (ai : Option Addr) (li : List IM) (vb ve : Value) (W : World) (hav0 : 0 ≤ avg) (hav1 : avg ≤ 65535) (hp : p ≤ 255) (hby : i64ok byes) (hdp : i64ok dp) (hdn : i64ok dn) (hdw : i64ok dw)
    (hB : Bld ⟨w0, fun _ _ => False⟩ w0.heap.size (flat ps) (evl ps) vb ve W) (hM : RowM w0 ai li) (hli : li.length ≤ 1024)
    (hps : ∀ q ∈ ps, q.ok) (hpl : ps.length ≤ 2000) (hL : (flat ps).length ≤ 10000000) (hel : (evl ps).length ≤ 2000) (hne : 0 < (evl ps).length) (hh : ∃ p r, ps = p :: r ∧ (p.typ = 200 ∨ p.typ = 201)) {u8 u9 u10 u11 u12 u13 u14 u15 u16 u17 u18 u19 u20 u21 u22 u23 u24 u25 u26 u30 u31 u32 u33 u34 u35 u36 u37 u38 u39 u40 u41 u42 u43 u44 u45 u46 u47 u48 u49 u50 u51 u52 u53 u54 u55 u56 u57 u58 u59 u60 u61 u62 u63 u64 u65 u66 u67 u68 u69 u70 u71 u72 u73 u74 u75 u76 u77 u78 u79 u80 u81 u82 u83 u84 u85 u86 u87 u88 u89 u90 u91 u92 u93 u94 u95 u96 u97 u98 u99 u100 u101 u102 u103 u104 u105 u106 u107 u108 u109 u110 u111 u112 u113 u114 u115 u116 u117 u118 u119 u120 u121 u122 u123 u124 u125 u126 u127 u128 u129 u130 u131 u132 u133 u134 u135 u136 u137 u138 u139 u140 u141 u142 u143 u144 u145 u146 u147 u148 u149 u150 u151 u152 u153 u154 u155 u156 u157 u158 u159 u160 u161 u162 u163 u164 u165 u166 u167 u168 u169 u170 u171 u172 u173 u174 u175 u176 u177 u178 u179 u180 u181 u182 u183 u184 u185 u186 u187 u188 u189 u190 u191 u192 u193 u194 u195 u196 u197 u198 u199 u200 u201 u202 u203 u204 u205 u206 u207 u208 u209 u210 u211 u212 u213 u214 u215 u216 u217 u218 u219 u220 u221 u222 u223 u224 u225 u226 u227 u228 u229 u230 u231 u232 u233 u234 u235 u236 u237 u238 u239 u240 u241 u242 u243 u244 u245 u246 u247 u248 u249 u250 u251 u252 u253 u254 u255 u256 u257 u258 u259 u260 u261 u262 u263 u264 u265 u266 u267 u268 u269 u270 u271 u272 u273 u274 u275 u276 u277 u278 u279 u280 u281 u282 u283 u284 u285 u286 u287 u288 u289 u290 u291 u292 u293 u294 u295 u296 u297 u298 u299 u300 u301 u302 u303 u304 u305 u306 u307 u308 u309 u310 u311 u312 u313 u314 u315 u316 u317 u318 u319 u320 u321 u322 u323 u324 u325 u326 u327 u328 u329 u330 u331 u332 u333 u334 u335 u336 u337 u338 u339 u340 u341 u342 u343 u344 u345 u346 u347 u348 u349 u350 u351 u352 u353 u354 u355 u356 u357 u358 u359 u360 u361 u362 u363 u364 u365 u366 u367 u368 u369 u370 u371 u372 u373 u374 u375 u376 u377 u378 u379 u380 u381 u382 u383 u384 u385 u386 u387 u388 u389 u390 u391 u392 u393 u394 u395 u396 u397 u398 u399 u400 u401 u402 u403 u404 u405 u406 u407 u408 u409 u410 u411 u412 u413 u414 u415 u416 u417 u418 u419 u420 u421 u422 u423 u424 u425 u426 u427 u428 u429 u430 u431 u432 u433 u434 u435 u436 u437 u438 u439 u440 u441 u442 u443 u444 u445 u446 u447 u448 u449 u450 u451 u452 u453 u454 u455 u456 u457 u458 u459 u460 u461 u462 u463 u464 u465 u466 u467 u468 u469 u470 u471 u472 u473 u474 u475 u476 u477 u478 u479 u480 u481 u482 u483 u484 u485 u486 u487 u488 u489 u490 u491 u492 u493 u494 u495 u496 u497 u498 u499 u500 u501 u502 u503 u504 u505 u506 u507 u508 u509 u510 u511 u512 u513 u514 u515 u516 u517 u518 u519 u520 u521 u522 u523 u524 u525 u526 u527 u528 u529 u530 u531 u532 u533 u534 u535 u536 u537 u538 u539 u540 u541 u542 u543 u544 u545 u546 u547 u548 u549 u550 u551 u552 u553 u554 u555 u556 u557 u558 u559 u560 u561 u562 u563 u564 u565 u566 u567 u568 u569 u570 u571 u572 u573 u574 u575 u576 u577 u578 u579 u580 u581 u582 u583 u584 u585 u586 u587 u588 u589 u590 u591 u592 u593 u594 u595 u596 u597 u598 u599 u600 u601 u602 u603 u604 u605 u606 u607 u608 u609 u610 u611 u612 u613 : Value} :
    Code.wp Ybaz.prog (lawTail 10) (bodyPost Ybaz.prog Ybaz.f3 fun e w' => e = Ending.returned (.bool true) ∧ Below w0.heap.size w0 w') { tmps := #[.bool lv, .int .i64 byes, .int .u16 avg, .int .u8 (p : Nat), .int .i64 dp, .int .i64 dn, .int .i64 dw, .slice ai li.length ci, u8, u9, u10, u11, u12, u13, u14, u15, u16, u17, u18, u19, u20, u21, u22, u23, u24, u25, u26, ve, vb, .int .i64 (ps.countP Pk.isBye : Nat), u30, u31, u32, u33, u34, u35, u36, u37, u38, u39, u40, u41, u42, u43, u44, u45, u46, u47, u48, u49, u50, u51, u52, u53, u54, u55, u56, u57, u58, u59, u60, u61, u62, u63, u64, u65, u66, u67, u68, u69, u70, u71, u72, u73, u74, u75, u76, u77, u78, u79, u80, u81, u82, u83, u84, u85, u86, u87, u88, u89, u90, u91, u92, u93, u94, u95, u96, u97, u98, u99, u100, u101, u102, u103, u104, u105, u106, u107, u108, u109, u110, u111, u112, u113, u114, u115, u116, u117, u118, u119, u120, u121, u122, u123, u124, u125, u126, u127, u128, u129, u130, u131, u132, u133, u134, u135, u136, u137, u138, u139, u140, u141, u142, u143, u144, u145, u146, u147, u148, u149, u150, u151, u152, u153, u154, u155, u156, u157, u158, u159, u160, u161, u162, u163, u164, u165, u166, u167, u168, u169, u170, u171, u172, u173, u174, u175, u176, u177, u178, u179, u180, u181, u182, u183, u184, u185, u186, u187, u188, u189, u190, u191, u192, u193, u194, u195, u196, u197, u198, u199, u200, u201, u202, u203, u204, u205, u206, u207, u208, u209, u210, u211, u212, u213, u214, u215, u216, u217, u218, u219, u220, u221, u222, u223, u224, u225, u226, u227, u228, u229, u230, u231, u232, u233, u234, u235, u236, u237, u238, u239, u240, u241, u242, u243, u244, u245, u246, u247, u248, u249, u250, u251, u252, u253, u254, u255, u256, u257, u258, u259, u260, u261, u262, u263, u264, u265, u266, u267, u268, u269, u270, u271, u272, u273, u274, u275, u276, u277, u278, u279, u280, u281, u282, u283, u284, u285, u286, u287, u288, u289, u290, u291, u292, u293, u294, u295, u296, u297, u298, u299, u300, u301, u302, u303, u304, u305, u306, u307, u308, u309, u310, u311, u312, u313, u314, u315, u316, u317, u318, u319, u320, u321, u322, u323, u324, u325, u326, u327, u328, u329, u330, u331, u332, u333, u334, u335, u336, u337, u338, u339, u340, u341, u342, u343, u344, u345, u346, u347, u348, u349, u350, u351, u352, u353, u354, u355, u356, u357, u358, u359, u360, u361, u362, u363, u364, u365, u366, u367, u368, u369, u370, u371, u372, u373, u374, u375, u376, u377, u378, u379, u380, u381, u382, u383, u384, u385, u386, u387, u388, u389, u390, u391, u392, u393, u394, u395, u396, u397, u398, u399, u400, u401, u402, u403, u404, u405, u406, u407, u408, u409, u410, u411, u412, u413, u414, u415, u416, u417, u418, u419, u420, u421, u422, u423, u424, u425, u426, u427, u428, u429, u430, u431, u432, u433, u434, u435, u436, u437, u438, u439, u440, u441, u442, u443, u444, u445, u446, u447, u448, u449, u450, u451, u452, u453, u454, u455, u456, u457, u458, u459, u460, u461, u462, u463, u464, u465, u466, u467, u468, u469, u470, u471, u472, u473, u474, u475, u476, u477, u478, u479, u480, u481, u482, u483, u484, u485, u486, u487, u488, u489, u490, u491, u492, u493, u494, u495, u496, u497, u498, u499, u500, u501, u502, u503, u504, u505, u506, u507, u508, u509, u510, u511, u512, u513, u514, u515, u516, u517, u518, u519, u520, u521, u522, u523, u524, u525, u526, u527, u528, u529, u530, u531, u532, u533, u534, u535, u536, u537, u538, u539, u540, u541, u542, u543, u544, u545, u546, u547, u548, u549, u550, u551, u552, u553, u554, u555, u556, u557, u558, u559, u560, u561, u562, u563, u564, u565, u566, u567, u568, u569, u570, u571, u572, u573, u574, u575, u576, u577, u578, u579, u580, u581, u582, u583, u584, u585, u586, u587, u588, u589, u590, u591, u592, u593, u594, u595, u596, u597, u598, u599, u600, u601, u602, u603, u604, u605, u606, u607, u608, u609, u610, u611, u612, u613], defers := [] } W := by
  have HI : Hid ((0 ≤ avg ∧ avg ≤ 65535) ∧ p ≤ 255 ∧ i64ok byes ∧ i64ok dp ∧ i64ok dn ∧ i64ok dw) := ⟨⟨hav0, hav1⟩, hp, hby, hdp, hdn, hdw⟩
  have HM : Hid (RowM w0 ai li ∧ li.length ≤ 1024) := ⟨hM, hli⟩
  have hfl : 0 < (flat ps).length := by obtain ⟨q, r, e, _⟩ := hh; have := ps_le_flat ps; rw [e] at this ⊢; simp at this ⊢; omega
  obtain ⟨g, cap, hvb, hg0, hg1, hcap⟩ := row_take hB.row hfl
  obtain ⟨ge, ec, hve, he0, he1, _⟩ := row_take hB.evr hne
  subst hvb
  subst hve
  have HG : Hid ((w0.heap.size ≤ g ∧ g < W.heap.size ∧ (flat ps).length ≤ cap) ∧ w0.heap.size ≤ ge ∧ ge < W.heap.size) := ⟨⟨hg0, hg1, hcap⟩, he0, he1⟩
  have HBL : Hid (Bld ⟨w0, fun _ _ => False⟩ w0.heap.size (flat ps) (evl ps) (.slice (some ⟨g, 0, none⟩) (flat ps).length cap) (.slice (some ⟨ge, 0, none⟩) (evl ps).length ec) W) := hB
  have HP : Hid ((∀ q ∈ ps, q.ok) ∧ ps.length ≤ 2000 ∧ (flat ps).length ≤ 10000000 ∧ (evl ps).length ≤ 2000 ∧ 0 < (evl ps).length ∧ 0 < (flat ps).length ∧ ∃ p r, ps = p :: r ∧ (p.typ = 200 ∨ p.typ = 201)) := ⟨hps, hpl, hL, hel, hne, hfl, hh⟩
  have HR : Hid (Row W g 0 (flat ps)) := own8_row ⟨hB.row, rfl⟩
  have HE : Hid (RowE W ge (evl ps)) := rowE_of hB.evr
  have hmk1 : ∀ w : World, (Instr.makeMap 41 none).run Ybaz.prog w = .ok (.map (some w.heap.size)) (w.alloc (.map #[] 0)) := fun _ => rfl
  have hmk2 : ∀ w : World, (Instr.makeMap 42 none).run Ybaz.prog w = .ok (.map (some w.heap.size)) (w.alloc (.map #[] 0)) := fun _ => rfl
  clear hav0 hav1 hp hby hdp hdn hdw hM hli hB hps hpl hL hel hne hh hfl hg0 hg1 hcap he0 he1
  conv => arg 2; whnf
  go_wp2_with fail
  go_at_call 5
  refine (parseall g 0 cap ps W HG.out.1.2.1 HP.out.1 HR.out HG.out.1.2.2 (by have := HP.out.2.1; omega) HP.out.2.2.2.2.2.2).mono ?_
  rintro e W1 ⟨rfl, hb1⟩
  have B1 : Hid (Below W.heap.size W W1) := hb1
  clear hb1
  go_wp2_with fail
  go_at_call 6
  have B2 : Hid (Below W.heap.size W (W1.alloc (.cells #[.slice (some ⟨g, 0, none⟩) (flat ps).length cap] 35))) := B1.out.trans (((Below.refl _ W1).alloc (Nat.le_refl _) _).mono B1.out.size)
  have C2 : Hid ((W1.alloc (.cells #[.slice (some ⟨g, 0, none⟩) (flat ps).length cap] 35)).heap[W1.heap.size]? = some (.cells #[.slice (some ⟨g, 0, none⟩) (flat ps).length cap] 35)) := top_at rfl
  generalize W1.alloc (.cells #[.slice (some ⟨g, 0, none⟩) (flat ps).length cap] 35) = W2 at *
  generalize W1.heap.size = cb at *
  refine (bclone_any w0.heap.size g (flat ps).length cap (flat ps) W2 ⟨(HBL.out.step B2.out).row, rfl⟩ HP.out.2.2.1 HP.out.2.2.2.2.2.1).mono ?_
  rintro e W3 ⟨g2, cap2, rfl, ho3, hb3⟩
  have B3 : Hid (Below W.heap.size W W3) := B2.out.trans (hb3.mono B2.out.size)
  have R3 : Hid (Row W3 g2 0 (flat ps) ∧ g2 < W3.heap.size) := ⟨own8_row ho3, by obtain ⟨g', c', e', _, h, _⟩ := row_take ho3.1 HP.out.2.2.2.2.2.1; injection e' with e'; injection e' with e'; injection e' with e'; rw [e']; exact h⟩
  have C3 : Hid (W3.heap[cb]? = some (.cells #[.slice (some ⟨g, 0, none⟩) (flat ps).length cap] 35)) := (hb3.block cb (Array.getElem?_eq_some_iff.1 C2.out).1).trans C2.out
  clear ho3 hb3 B1 B2 C2
  go_upto_block 7 with fail
  have B4 : Hid (Below W3.heap.size W3 (W3.alloc (.map #[] 0))) := (Below.refl _ W3).alloc (Nat.le_refl _) _
  have B5 : Hid (Below W3.heap.size W3 ((W3.alloc (.map #[] 0)).alloc (.map #[] 0))) := B4.out.trans (((Below.refl _ _).alloc (Nat.le_refl _) _).mono B4.out.size)
  have M4 : Hid (mp ((W3.alloc (.map #[] 0)).alloc (.map #[] 0)) W3.heap.size 0 0 (fun _ => none)) := mp_below (mp_made W3) ((Below.refl _ _).alloc (Nat.le_refl _) _) (mp_lt (mp_made W3))
  have M5 : Hid (mp ((W3.alloc (.map #[] 0)).alloc (.map #[] 0)) (W3.heap.size + 1) 0 0 (fun _ => none)) := by
    have h := mp_made (W3.alloc (.map #[] 0))
    rw [show (W3.alloc (.map #[] 0)).heap.size = W3.heap.size + 1 by simp] at h
    exact h
  generalize hW5 : (W3.alloc (.map #[] 0)).alloc (.map #[] 0) = W5 at *
  clear hW5 hmk1 hmk2
  have hB5 : Hid (Below w0.heap.size w0 W5) := (HBL.out.bel.trans (B3.out.mono HBL.out.siz)).trans (B5.out.mono (Nat.le_trans HBL.out.siz B3.out.size))
  have HSZ : Hid (w0.heap.size ≤ W.heap.size ∧ W.heap.size ≤ W3.heap.size) := ⟨HBL.out.siz, B3.out.size⟩
  have K5 : Hid (Kys W5 W3.heap.size (W3.heap.size + 1) (fun _ => none) [] (.slice none 0 0) 0 W5) := ⟨⟨0, M4.out⟩, ⟨0, mp_congr M5.out (fun k _ => rfl)⟩, ⟨rfl, .inl ⟨rfl, rfl⟩⟩, Two.refl _ _ _⟩
  have E5 : Hid (RowE W5 ge (evl ps)) := (HE.out.below B3.out HG.out.2.2).below B5.out (Nat.lt_of_lt_of_le HG.out.2.2 HSZ.out.2)
  refine loop4 w0 W5 ai ci W3.heap.size (W3.heap.size + 1) li W5 HM.out.1 HM.out.2 hB5.out (by omega) (mp_lt M4.out) (mp_lt M5.out) (by have := HSZ.out; omega) (by have := HSZ.out; omega) K5.out _ _ ?_
  intro vk6 _ _ _ _ _ _ _ _ _ _ _ _ _ _ _ _ _ _ _ _ _ _ _ _ _ _ _ _ _ _ _ W6 hk6
  have K6 : Hid (Kys W5 W3.heap.size (W3.heap.size + 1) (memOf li) (addAll [] (li.map IM.s)) vk6 4096 W6) := hk6
  clear hk6
  go_upto_block 9 with fail
  refine loop5 W5 ge (evl ps).length ec W3.heap.size (W3.heap.size + 1) 4096 (memOf li) (addAll [] (li.map IM.s)) (evl ps) vk6 W6 rfl E5.out (by have := HG.out.2.2; have := HSZ.out; have := B5.out.size; omega) (by have := HG.out.2.2; have := HSZ.out; omega) (by have := HG.out.2.2; have := HSZ.out; omega) (evl_u32 HP.out.1) HP.out.2.2.2.1 (by omega) (by have a1 := addAll_len (li.map IM.s) []; have a2 := HM.out.2; simp only [List.length_map, List.length_nil] at a1; omega) (by omega) (mp_lt M4.out) (mp_lt M5.out) K6.out _ _ ?_
  intro vk7 _ _ _ _ _ _ _ _ _ _ _ _ _ _ _ _ _ _ _ W7 hk7
  obtain ⟨ks, hks⟩ : ∃ ks, addAll (addAll [] (li.map IM.s)) ((evl ps).map Prod.snd) = ks := ⟨_, rfl⟩
  rw [hks] at hk7
  have HKF : Hid ((∀ k ∈ ks, u32ok k) ∧ ks.Nodup ∧ ks.length ≤ 5000 ∧ Within (memOf li) ks ∧ (∀ e ∈ evl ps, e.2 ∈ ks) ∧ 0 < ks.length) := by
    have h1 : ∀ e ∈ evl ps, e.2 ∈ ks := fun e he => hks ▸ addAll_all _ _ (List.mem_map_of_mem he)
    refine ⟨fun k hk => ?_, hks ▸ addAll_nodup _ _ (addAll_nodup _ _ List.nodup_nil), ?_, hks ▸ within_sub (memOf_within li) (fun k hk => addAll_sub _ _ hk), h1, ?_⟩
    · rw [← hks] at hk
      rcases addAll_mem _ _ hk with hk | hk
      · rcases addAll_mem _ _ hk with hk | hk
        · cases hk
        · exact rowM_u32 HM.out.1 k hk
      · obtain ⟨e, he, rfl⟩ := List.mem_map.1 hk
        exact evl_u32 HP.out.1 e he
    · have a1 := addAll_len ((evl ps).map Prod.snd) (addAll [] (li.map IM.s))
      have a2 := addAll_len (li.map IM.s) []
      have a3 := HM.out.2
      have a4 := HP.out.2.2.2.1
      rw [hks] at a1
      simp only [List.length_map, List.length_nil] at a1 a2
      omega
    · exact List.length_pos_of_mem (h1 _ (List.getElem_mem HP.out.2.2.2.2.1))
  obtain ⟨kb, kc, hvk, _, hkb, _⟩ := row_take hk7.row HKF.out.2.2.2.2.2
  subst hvk
  have K7 : Hid (Kys W5 W3.heap.size (W3.heap.size + 1) (memOf li) ks (.slice (some ⟨kb, 0, none⟩) ks.length kc) (4096 + (evl ps).length) W7 ∧ kb < W7.heap.size) := ⟨hk7, hkb⟩
  have R7 : Hid (Row32 W7 kb ks) := row32_of hk7.row
  clear hk7 hkb hks
  go_upto_block 11 with fail
  rename_i Q1 K1 hK1
  refine loop6 W3.heap.size kb ks.length kc (4096 + (evl ps).length) (memOf li) ks W7 rfl (Nat.le_trans HKF.out.2.2.1 (by decide)) K7.out.1.mem R7.out K7.out.2 HKF.out.1 _ _ ?_
  intro _ _ _ _ _ _ _ _ _ _ _ _ _ _ _ _ _ _ _ _ _ W8 hb8
  refine hK1 _ _ ?_
  have ht := K7.out.1.two
  have hbk : ∀ k, k < W3.heap.size → W8.heap[k]? = W3.heap[k]? := fun k hk => (hb8.block k (Nat.lt_of_lt_of_le (Nat.lt_of_lt_of_le hk B5.out.size) ht.size)).trans ((ht.block k (Nat.lt_of_lt_of_le hk B5.out.size) (by omega) (by omega)).trans (B5.out.block k hk))
  have hbw : ∀ k, k < W.heap.size → W8.heap[k]? = W.heap[k]? := fun k hk => (hbk k (Nat.lt_of_lt_of_le hk HSZ.out.2)).trans (B3.out.block k hk)
  have hs8 : W3.heap.size ≤ W8.heap.size := Nat.le_trans B5.out.size (Nat.le_trans ht.size hb8.size)
  have hB7 : Below w0.heap.size w0 W7 := hB5.out.trans (ht.to_below hB5.out.size (by have := HSZ.out; omega) (by have := HSZ.out; omega))
  have hB8 : Below w0.heap.size w0 W8 := hB7.trans (hb8.mono hB7.size)
  obtain ⟨c8, hm8⟩ := K7.out.1.mem
  exact tail20 w0 ge ec g cap g2 cap2 cb W3.heap.size kb kc (4096 + (evl ps).length) c8 p byes avg dp dn dw lv ks ps (memOf li) W8 hB8 HI.out.1.1 HI.out.1.2 HI.out.2.1 HI.out.2.2.1 HI.out.2.2.2.1 HI.out.2.2.2.2.1 HI.out.2.2.2.2.2
    (mp_below hm8 hb8 (mp_lt hm8)) (by have := HP.out.2.2.2.1; omega) (memOf_ok li) HKF.out.2.2.2.1 (fun i v hv => (World.cell?_of_block (hbw g HG.out.1.2.1)).trans (HR.out i v hv)) (by have := HG.out.1.2.1; have := HSZ.out; omega) (fun i v hv => (World.cell?_of_block (hbk g2 R3.out.2)).trans (R3.out.1 i v hv)) (Nat.lt_of_lt_of_le R3.out.2 hs8) ((hbk cb (Array.getElem?_eq_some_iff.1 C3.out).1).trans C3.out)
    HP.out.1 (Nat.le_trans HP.out.2.1 (by decide)) HG.out.1.2.2 HP.out.2.2.1 (HE.out.block (hbw ge HG.out.2.2)) (by have := HG.out.2.2; have := HSZ.out; omega) HP.out.2.2.2.1 (evl_kinds ps) HKF.out.2.2.2.2.1 (R7.out.below hb8 K7.out.2) (Nat.lt_of_lt_of_le K7.out.2 hb8.size) HKF.out.1 HKF.out.2.1 HKF.out.2.2.1
end Go.Proofs.YbulkdsruGreatDoor
