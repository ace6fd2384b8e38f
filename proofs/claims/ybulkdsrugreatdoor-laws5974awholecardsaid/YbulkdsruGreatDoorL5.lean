import Derived.Test.YbulkdsruGreatDoorLp
namespace Go.Proofs.YbulkdsruGreatDoor
open Go.RowKit Go.Op
set_option linter.unusedVariables false
set_option linter.unusedSimpArgs false
set_option maxRecDepth 100000 in
set_option maxHeartbeats 4000000 in
theorem loop5 (w0 : World) (ge L ec mb sb n : Nat) (f : Ms) (ks0 : List Int) (es : List (Int × Int)) (vk : Value) (W : World) (hL : L = es.length) (hE : RowE w0 ge es) (hge : ge < w0.heap.size) (hgm : ge ≠ mb) (hgs : ge ≠ sb) (heu : ∀ e ∈ es, u32ok e.2) (hl : L ≤ 2000) (hn : n ≤ 5000) (hkl : ks0.length ≤ 5000) (hms : mb ≠ sb) (hmb : mb < w0.heap.size) (hsb : sb < w0.heap.size) (hB : Kys w0 mb sb f ks0 vk n W)
    (K : Act → World → Prop) (Q : Exit → Act → World → Prop) {u0 u1 u2 u3 u4 u5 u6 u7 u8 u9 u10 u11 u12 u13 u14 u15 u16 u17 u18 u19 u20 u21 u22 u23 u24 u25 u26 u27 u28 u29 u30 u31 u32 u33 u34 u35 u36 u37 u40 u41 u42 u43 u44 u45 u46 u47 u48 u49 u50 u51 u52 u53 u54 u55 u56 u57 u58 u59 u60 u61 u62 u63 u64 u65 u66 u67 u68 u69 u70 u71 u72 u73 u74 u75 u76 u77 u78 u79 u80 u81 u82 u83 u84 u85 u86 u87 u88 u89 u90 u91 u92 u93 u94 u95 u96 u97 u98 u99 u100 u101 u102 u103 u104 u105 u106 u107 u108 u109 u110 u111 u112 u113 u114 u115 u116 u117 u118 u119 u120 u121 u122 u123 u124 u125 u126 u127 u128 u129 u130 u131 u132 u133 u134 u135 u136 u137 u138 u139 u140 u141 u142 u143 u144 u145 u146 u147 u148 u149 u150 u151 u152 u153 u154 u155 u156 u157 u158 u159 u160 u161 u162 u163 u164 u165 u166 u167 u168 u169 u170 u171 u172 u173 u174 u175 u176 u177 u178 u179 u180 u181 u182 u183 u184 u185 u186 u187 u188 u189 u190 u191 u192 u193 u194 u195 u196 u197 u198 u199 u200 u201 u202 u203 u204 u205 u206 u207 u208 u209 u210 u211 u212 u213 u214 u215 u216 u217 u218 u219 u220 u221 u222 u223 u224 u225 u226 u227 u228 u229 u230 u231 u232 u233 u234 u235 u236 u237 u238 u239 u240 u241 u242 u243 u244 u245 u246 u247 u248 u249 u250 u251 u252 u256 u257 u258 u259 u260 u261 u262 u263 u264 u265 u266 u267 u268 u269 u270 u271 u272 u273 u274 u275 u276 u277 u278 u279 u280 u281 u282 u283 u284 u285 u286 u287 u288 u289 u290 u291 u292 u293 u294 u295 u296 u297 u298 u299 u300 u301 u302 u303 u304 u305 u306 u307 u308 u309 u310 u311 u312 u313 u314 u315 u316 u317 u318 u319 u320 u321 u322 u323 u324 u325 u326 u327 u328 u329 u330 u331 u332 u333 u334 u335 u336 u337 u338 u339 u340 u341 u342 u343 u344 u345 u346 u347 u348 u349 u350 u351 u352 u353 u354 u355 u356 u357 u358 u359 u360 u361 u362 u363 u364 u365 u366 u367 u368 u369 u370 u371 u372 u373 u374 u375 u376 u377 u378 u379 u380 u381 u382 u383 u384 u385 u386 u387 u388 u389 u390 u391 u392 u393 u394 u395 u396 u397 u398 u399 u400 u401 u402 u403 u404 u405 u406 u407 u408 u409 u410 u411 u412 u413 u414 u415 u416 u417 u418 u419 u420 u421 u422 u423 u424 u425 u426 u427 u428 u429 u430 u431 u432 u433 u434 u435 u436 u437 u438 u439 u440 u441 u442 u443 u444 u445 u446 u447 u448 u449 u450 u451 u452 u453 u454 u455 u456 u457 u458 u459 u460 u461 u462 u463 u464 u465 u466 u467 u468 u469 u470 u471 u472 u473 u474 u475 u476 u477 u478 u479 u480 u481 u482 u483 u484 u485 u486 u487 u488 u489 u490 u491 u492 u493 u494 u495 u496 u497 u498 u499 u500 u501 u502 u503 u504 u505 u506 u507 u508 u509 u510 u511 u512 u513 u514 u515 u516 u517 u518 u519 u520 u521 u522 u523 u524 u525 u526 u527 u528 u529 u530 u531 u532 u533 u534 u535 u536 u537 u538 u539 u540 u541 u542 u543 u544 u545 u546 u547 u548 u549 u550 u551 u552 u553 u554 u555 u556 u557 u558 u559 u560 u561 u562 u563 u564 u565 u566 u567 u568 u569 u570 u571 u572 u573 u574 u575 u576 u577 u578 u579 u580 u581 u582 u583 u584 u585 u586 u587 u588 u589 u590 u591 u592 u593 u594 u595 u596 u597 u598 u599 u600 u601 u602 u603 u604 u605 u606 u607 u608 u609 u610 u611 u612 u613 : Value}
    (hK : ∀ (vk' : Value) (x43 x255 x256 x257 x258 x259 x260 x261 x262 x263 x264 x265 x266 x267 x268 x269 x270 x271 x272 : Value) (W' : World), Kys w0 mb sb f (addAll ks0 (es.map Prod.snd)) vk' (n + L) W' → K { tmps := #[u0, u1, u2, u3, u4, u5, u6, u7, u8, u9, u10, u11, u12, u13, u14, u15, u16, u17, u18, u19, u20, u21, u22, u23, u24, u25, u26, u27, u28, u29, u30, u31, u32, u33, u34, u35, u36, u37, .map (some sb), vk', u40, u41, u42, x43, u44, u45, u46, u47, u48, u49, u50, u51, u52, u53, u54, u55, u56, u57, u58, u59, u60, u61, u62, u63, u64, u65, u66, u67, u68, u69, u70, u71, u72, u73, u74, u75, u76, u77, u78, u79, u80, u81, u82, u83, u84, u85, u86, u87, u88, u89, u90, u91, u92, u93, u94, u95, u96, u97, u98, u99, u100, u101, u102, u103, u104, u105, u106, u107, u108, u109, u110, u111, u112, u113, u114, u115, u116, u117, u118, u119, u120, u121, u122, u123, u124, u125, u126, u127, u128, u129, u130, u131, u132, u133, u134, u135, u136, u137, u138, u139, u140, u141, u142, u143, u144, u145, u146, u147, u148, u149, u150, u151, u152, u153, u154, u155, u156, u157, u158, u159, u160, u161, u162, u163, u164, u165, u166, u167, u168, u169, u170, u171, u172, u173, u174, u175, u176, u177, u178, u179, u180, u181, u182, u183, u184, u185, u186, u187, u188, u189, u190, u191, u192, u193, u194, u195, u196, u197, u198, u199, u200, u201, u202, u203, u204, u205, u206, u207, u208, u209, u210, u211, u212, u213, u214, u215, u216, u217, u218, u219, u220, u221, u222, u223, u224, u225, u226, u227, u228, u229, u230, u231, u232, u233, u234, u235, u236, u237, u238, u239, u240, u241, u242, u243, u244, u245, u246, u247, u248, u249, u250, u251, u252, .slice (some ⟨ge, 0, none⟩) L ec, .int .i64 L, x255, x256, x257, x258, x259, x260, x261, x262, x263, x264, x265, x266, x267, x268, x269, x270, x271, x272, u273, u274, u275, u276, u277, u278, u279, u280, u281, u282, u283, u284, u285, u286, u287, u288, u289, u290, u291, u292, u293, u294, u295, u296, u297, u298, u299, u300, u301, u302, u303, u304, u305, u306, u307, u308, u309, u310, u311, u312, u313, u314, u315, u316, u317, u318, u319, u320, u321, u322, u323, u324, u325, u326, u327, u328, u329, u330, u331, u332, u333, u334, u335, u336, u337, u338, u339, u340, u341, u342, u343, u344, u345, u346, u347, u348, u349, u350, u351, u352, u353, u354, u355, u356, u357, u358, u359, u360, u361, u362, u363, u364, u365, u366, u367, u368, u369, u370, u371, u372, u373, u374, u375, u376, u377, u378, u379, u380, u381, u382, u383, u384, u385, u386, u387, u388, u389, u390, u391, u392, u393, u394, u395, u396, u397, u398, u399, u400, u401, u402, u403, u404, u405, u406, u407, u408, u409, u410, u411, u412, u413, u414, u415, u416, u417, u418, u419, u420, u421, u422, u423, u424, u425, u426, u427, u428, u429, u430, u431, u432, u433, u434, u435, u436, u437, u438, u439, u440, u441, u442, u443, u444, u445, u446, u447, u448, u449, u450, u451, u452, u453, u454, u455, u456, u457, u458, u459, u460, u461, u462, u463, u464, u465, u466, u467, u468, u469, u470, u471, u472, u473, u474, u475, u476, u477, u478, u479, u480, u481, u482, u483, u484, u485, u486, u487, u488, u489, u490, u491, u492, u493, u494, u495, u496, u497, u498, u499, u500, u501, u502, u503, u504, u505, u506, u507, u508, u509, u510, u511, u512, u513, u514, u515, u516, u517, u518, u519, u520, u521, u522, u523, u524, u525, u526, u527, u528, u529, u530, u531, u532, u533, u534, u535, u536, u537, u538, u539, u540, u541, u542, u543, u544, u545, u546, u547, u548, u549, u550, u551, u552, u553, u554, u555, u556, u557, u558, u559, u560, u561, u562, u563, u564, u565, u566, u567, u568, u569, u570, u571, u572, u573, u574, u575, u576, u577, u578, u579, u580, u581, u582, u583, u584, u585, u586, u587, u588, u589, u590, u591, u592, u593, u594, u595, u596, u597, u598, u599, u600, u601, u602, u603, u604, u605, u606, u607, u608, u609, u610, u611, u612, u613], defers := [] } W') :
    Code.wp Ybaz.prog (lawBlk 9) (Exit.then K Q) { tmps := #[u0, u1, u2, u3, u4, u5, u6, u7, u8, u9, u10, u11, u12, u13, u14, u15, u16, u17, u18, u19, u20, u21, u22, u23, u24, u25, u26, u27, u28, u29, u30, u31, u32, u33, u34, u35, u36, u37, .map (some sb), vk, u40, u41, u42, u43, u44, u45, u46, u47, u48, u49, u50, u51, u52, u53, u54, u55, u56, u57, u58, u59, u60, u61, u62, u63, u64, u65, u66, u67, u68, u69, u70, u71, u72, u73, u74, u75, u76, u77, u78, u79, u80, u81, u82, u83, u84, u85, u86, u87, u88, u89, u90, u91, u92, u93, u94, u95, u96, u97, u98, u99, u100, u101, u102, u103, u104, u105, u106, u107, u108, u109, u110, u111, u112, u113, u114, u115, u116, u117, u118, u119, u120, u121, u122, u123, u124, u125, u126, u127, u128, u129, u130, u131, u132, u133, u134, u135, u136, u137, u138, u139, u140, u141, u142, u143, u144, u145, u146, u147, u148, u149, u150, u151, u152, u153, u154, u155, u156, u157, u158, u159, u160, u161, u162, u163, u164, u165, u166, u167, u168, u169, u170, u171, u172, u173, u174, u175, u176, u177, u178, u179, u180, u181, u182, u183, u184, u185, u186, u187, u188, u189, u190, u191, u192, u193, u194, u195, u196, u197, u198, u199, u200, u201, u202, u203, u204, u205, u206, u207, u208, u209, u210, u211, u212, u213, u214, u215, u216, u217, u218, u219, u220, u221, u222, u223, u224, u225, u226, u227, u228, u229, u230, u231, u232, u233, u234, u235, u236, u237, u238, u239, u240, u241, u242, u243, u244, u245, u246, u247, u248, u249, u250, u251, u252, .slice (some ⟨ge, 0, none⟩) L ec, .int .i64 L, .int .i64 0, u256, u257, u258, u259, u260, u261, u262, u263, u264, u265, u266, u267, u268, u269, u270, u271, u272, u273, u274, u275, u276, u277, u278, u279, u280, u281, u282, u283, u284, u285, u286, u287, u288, u289, u290, u291, u292, u293, u294, u295, u296, u297, u298, u299, u300, u301, u302, u303, u304, u305, u306, u307, u308, u309, u310, u311, u312, u313, u314, u315, u316, u317, u318, u319, u320, u321, u322, u323, u324, u325, u326, u327, u328, u329, u330, u331, u332, u333, u334, u335, u336, u337, u338, u339, u340, u341, u342, u343, u344, u345, u346, u347, u348, u349, u350, u351, u352, u353, u354, u355, u356, u357, u358, u359, u360, u361, u362, u363, u364, u365, u366, u367, u368, u369, u370, u371, u372, u373, u374, u375, u376, u377, u378, u379, u380, u381, u382, u383, u384, u385, u386, u387, u388, u389, u390, u391, u392, u393, u394, u395, u396, u397, u398, u399, u400, u401, u402, u403, u404, u405, u406, u407, u408, u409, u410, u411, u412, u413, u414, u415, u416, u417, u418, u419, u420, u421, u422, u423, u424, u425, u426, u427, u428, u429, u430, u431, u432, u433, u434, u435, u436, u437, u438, u439, u440, u441, u442, u443, u444, u445, u446, u447, u448, u449, u450, u451, u452, u453, u454, u455, u456, u457, u458, u459, u460, u461, u462, u463, u464, u465, u466, u467, u468, u469, u470, u471, u472, u473, u474, u475, u476, u477, u478, u479, u480, u481, u482, u483, u484, u485, u486, u487, u488, u489, u490, u491, u492, u493, u494, u495, u496, u497, u498, u499, u500, u501, u502, u503, u504, u505, u506, u507, u508, u509, u510, u511, u512, u513, u514, u515, u516, u517, u518, u519, u520, u521, u522, u523, u524, u525, u526, u527, u528, u529, u530, u531, u532, u533, u534, u535, u536, u537, u538, u539, u540, u541, u542, u543, u544, u545, u546, u547, u548, u549, u550, u551, u552, u553, u554, u555, u556, u557, u558, u559, u560, u561, u562, u563, u564, u565, u566, u567, u568, u569, u570, u571, u572, u573, u574, u575, u576, u577, u578, u579, u580, u581, u582, u583, u584, u585, u586, u587, u588, u589, u590, u591, u592, u593, u594, u595, u596, u597, u598, u599, u600, u601, u602, u603, u604, u605, u606, u607, u608, u609, u610, u611, u612, u613], defers := [] } W := by
  have HE : Hid (RowE w0 ge es) := hE
  have HB0 : Hid _ := hB
  have HK : Hid _ := hK
  have HMS : Hid (mb ≠ sb) := hms
  have HMB : Hid (mb < w0.heap.size) := hmb
  have HSB : Hid (sb < w0.heap.size) := hsb
  have HGE : Hid (ge < w0.heap.size) := hge
  have HGM : Hid (ge ≠ mb) := hgm
  have HGS : Hid (ge ≠ sb) := hgs
  have HEU : Hid (∀ e ∈ es, u32ok e.2) := heu
  have HL : Hid (L = es.length) := hL
  clear hE hK hB hms hmb hsb hge hgm hgs heu hL
  conv => arg 2; whnf
  go_wp2_with fail
  go_loopg [39, 255] L (fun m vk' i wr => ∃ (j : Nat), j + m = L ∧ i = .int .i64 j ∧ Hid (Kys w0 mb sb f (addAll ks0 ((es.take j).map Prod.snd)) vk' (n + j) wr))
  case atStart => exact ⟨0, by omega, rfl, HB0.out⟩
  case round =>
    obtain ⟨j, hj, rfl, hB⟩ := hrel
    by_cases hje : j = L
    · subst hje
      go_wp2_with fail
      refine HK.out _ _ _ _ _ _ _ _ _ _ _ _ _ _ _ _ _ _ _ _ _ ?_
      have := hB.out
      rw [HL.out, List.take_length] at this
      rw [HL.out]
      exact this
    · have hjl : j < es.length := by have := HL.out; omega
      have hlt : (j : Int) < L := by omega
      have hltn : j < L := by omega
      obtain ⟨x, hx⟩ : ∃ x, es[j] = x := ⟨_, rfl⟩
      have HXS : Hid (u32ok x.2) := hx ▸ HEU.out _ (List.getElem_mem hjl)
      obtain ⟨c0, c1⟩ := (HE.out.block (hB.out.two.block ge HGE.out HGM.out HGS.out)) j x (by rw [List.getElem?_eq_getElem hjl, hx])
      have hg : ge < wr.heap.size := Nat.lt_of_lt_of_le HGE.out hB.out.two.size
      have E1 : IntKind.i64.wrap ((j : Int) + 1) = (j : Int) + 1 := by simp [IntKind.wrap, IntKind.bits, IntKind.signed]; omega
      have HT : Hid (es.take (j + 1) = es.take j ++ [x]) := by rw [take_succ es j hjl, hx]; trivial
      have HKL : Hid ((addAll ks0 ((es.take j).map Prod.snd)).length ≤ 100000) := by
        have := addAll_len ((es.take j).map Prod.snd) ks0
        rw [List.length_map, List.length_take] at this
        show _ ≤ _
        omega
      have HAD : Hid (addAll ks0 ((es.take (j + 1)).map Prod.snd) = addK (addAll ks0 ((es.take j).map Prod.snd)) x.2) := by rw [HT.out, List.map_append, List.map_cons, List.map_nil, addAll_snoc]; trivial
      generalize hks : addAll ks0 ((es.take j).map Prod.snd) = ks at HAD HKL hB
      have HN1 : Hid (n + j < maxLen) := Nat.lt_of_le_of_lt (show n + j ≤ 10000 by omega) (by decide)
      have K3 : Hid _ := hB.out.step ((Below.refl _ wr).alloc (Nat.le_refl _) (.cells #[.int .i64 x.1, .int .u32 x.2] 33))
      have PB3 : Hid ((wr.alloc (.cells #[.int .i64 x.1, .int .u32 x.2] 33)).heap[wr.heap.size]? = some (.cells #[.int .i64 x.1, .int .u32 x.2] 33)) := (MapKept.heap_alloc wr _).1
      have HPM : Hid (mb < wr.heap.size ∧ sb < wr.heap.size) := ⟨Nat.lt_of_lt_of_le HMB.out hB.out.two.size, Nat.lt_of_lt_of_le HSB.out hB.out.two.size⟩
      clear hx hks hje hjl
      go_upto_region 69 with fail
      generalize hW3 : wr.alloc (.cells #[.int .i64 x.1, .int .u32 x.2] 33) = W3 at K3 PB3 ⊢
      generalize hpb : wr.heap.size = pb at HPM PB3 ⊢
      have p0 : W3.cell? ⟨pb, 1, none⟩ = some (.int .u32 x.2) := cell_of PB3.out
      clear hW3 hpb c0 c1 hg
      obtain ⟨c3, hs3⟩ := K3.out.sen
      have LK := mp_look hs3 Ybaz.underlying42 (z := .bool false) (by rfl) HXS.out
      by_cases hin : x.2 ∈ ks
      · have e1 : (seenV ks x.2).getD (.bool false) = .bool true := by unfold seenV; rw [if_pos hin]; rfl
        rw [e1] at LK
        have HAD2 : Hid (addK ks x.2 = ks) := by unfold addK; exact if_pos hin
        clear e1 hin hs3
        go_wp2_with fail
        go_roundg (L - (j + 1))
        · refine ⟨j + 1, by omega, rfl, ?_⟩
          rw [HAD.out, HAD2.out]
          exact K3.out.more (by omega)
        · omega
      · have e1 : (seenV ks x.2).getD (.bool false) = .bool false := by unfold seenV; rw [if_neg hin]; rfl
        rw [e1] at LK
        have HAD2 : Hid (addK ks x.2 = ks ++ [x.2]) := by unfold addK; exact if_neg hin
        obtain ⟨hrun2, hmp2, hturn2⟩ := putW2_run hs3 HN1.out HXS.out (.bool true)
        have K4 : Hid _ := K3.out.putS HMS.out HSB.out hturn2 hmp2 (by omega)
        have p1 : (putW2 W3 sb x.2 (.bool true)).cell? ⟨pb, 1, none⟩ = some (.int .u32 x.2) := cell_of ((turned_other hturn2 (by have := HPM.out; omega)).trans PB3.out)
        generalize hW4 : putW2 W3 sb x.2 (.bool true) = W4 at K4 p1 hrun2 ⊢
        clear e1 hin hs3 hmp2 hturn2 hW4
        go_wp2_with (at_builtin; refine wpList_appK x.2 K4.out.1 K4.out.2.1 K4.out.2.2.1 K4.out.2.2.2 HMB.out HSB.out rfl _ _ rfl rfl 1 rfl (by have := HKL.out; omega) ?_; intro vk5 w5 hK5; have K5 : Hid _ := hK5; clear hK5)
        go_roundg (L - (j + 1))
        · refine ⟨j + 1, by omega, rfl, ?_⟩
          rw [HAD.out, HAD2.out]
          exact K5.out.more (by omega)
        · omega
end Go.Proofs.YbulkdsruGreatDoor
