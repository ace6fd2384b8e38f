import Derived.Test.YbulkdsruGreatDoorL7a
namespace Go.Proofs.YbulkdsruGreatDoor
open Go.RowKit Go.Op
set_option linter.unusedVariables false
set_option linter.unusedSimpArgs false
set_option maxRecDepth 100000 in
set_option maxHeartbeats 4000000 in
theorem body7a_C (mb xb nb ge L ec n0 n : Nat) (k last : Int) (now : Tm) (f0 g : Ms) (Fk : Option Mem) (es : List (Int × Int)) (wr : World) (hS : S7 mb xb nb ge n0 n now f0 g es wr) (hL : L = es.length) (hl : L ≤ 2000) (hgk : g k = none) (hk : u32ok k) (hn : n ≤ 10000) (j : Nat) (hl1 : last = j) (hj : j < L) (hkd : ∀ x, es[j]? = some x → x.1 = 1) (hk3 : ∀ e ∈ es, e.1 = 0 ∨ e.1 = 1 ∨ e.1 = 2) (hF : Fk = some ⟨now, sentOf (run now f0 (es.take j) k), false⟩)
    (K : Act → World → Prop) (Q : Exit → Act → World → Prop) {u0 u1 u2 u3 u4 u5 u6 u7 u8 u9 u10 u11 u12 u13 u14 u15 u16 u17 u18 u19 u20 u21 u22 u23 u24 u25 u26 u28 u29 u30 u31 u32 u33 u34 u35 u36 u38 u39 u40 u41 u42 u43 u44 u45 u46 u47 u48 u49 u50 u52 u53 u55 u56 u59 u60 u61 u62 u63 u64 u65 u66 u67 u68 u69 u70 u71 u72 u73 u74 u75 u76 u77 u78 u79 u80 u81 u82 u83 u84 u85 u86 u87 u88 u89 u90 u91 u92 u93 u94 u95 u96 u97 u98 u99 u100 u101 u102 u103 u104 u105 u106 u107 u108 u109 u110 u111 u112 u113 u114 u115 u116 u117 u118 u119 u120 u121 u122 u123 u124 u125 u126 u127 u128 u129 u130 u131 u132 u133 u134 u135 u136 u137 u138 u139 u140 u141 u142 u143 u144 u145 u146 u147 u148 u149 u150 u151 u152 u153 u154 u155 u156 u157 u158 u159 u160 u161 u162 u163 u164 u165 u166 u167 u168 u169 u170 u171 u172 u173 u174 u175 u176 u177 u178 u179 u180 u181 u182 u183 u184 u185 u186 u187 u188 u189 u190 u191 u192 u193 u194 u195 u196 u197 u198 u199 u200 u201 u202 u203 u204 u205 u206 u207 u208 u209 u210 u211 u212 u213 u214 u215 u216 u217 u218 u219 u220 u221 u222 u223 u224 u225 u226 u227 u228 u229 u230 u231 u232 u233 u234 u235 u236 u237 u238 u239 u240 u241 u242 u243 u244 u245 u246 u247 u248 u249 u250 u251 u252 u253 u254 u255 u256 u257 u258 u259 u260 u261 u262 u263 u264 u265 u266 u267 u268 u269 u270 u271 u272 u273 u274 u275 u276 u277 u278 u279 u280 u281 u282 u283 u284 u285 u286 u287 u288 u289 u290 u291 u292 u293 u294 u295 u296 u297 u298 u299 u300 u301 u302 u303 u304 u305 u306 u307 u308 u309 u310 u311 u312 u313 u314 u315 u316 u317 u318 u319 u320 u321 u322 u323 u324 u325 u326 u327 u328 u329 u330 u331 u332 u333 u334 u335 u336 u337 u338 u339 u340 u341 u342 u343 u344 u345 u346 u347 u348 u349 u350 u351 u352 u353 u354 u355 u356 u357 u358 u359 u360 u361 u362 u363 u364 u365 u366 u367 u368 u369 u370 u371 u372 u373 u374 u375 u376 u377 u378 u379 u380 u381 u382 u383 u384 u385 u386 u387 u388 u389 u390 u391 u392 u393 u394 u395 u396 u397 u398 u399 u400 u401 u402 u403 u404 u405 u406 u407 u408 u409 u410 u411 u412 u413 u414 u415 u416 u417 u418 u419 u420 u421 u422 u423 u424 u425 u426 u427 u428 u429 u430 u431 u432 u433 u434 u435 u436 u437 u438 u439 u440 u441 u442 u443 u444 u445 u446 u447 u448 u449 u450 u451 u452 u453 u454 u456 u457 u458 u459 u460 u461 u462 u463 u464 u465 u466 u467 u468 u469 u470 u471 u472 u473 u474 u475 u476 u477 u478 u479 u480 u481 u482 u483 u484 u485 u486 u487 u488 u489 u490 u491 u492 u493 u494 u495 u496 u497 u498 u499 u500 u501 u502 u503 u504 u505 u506 u507 u508 u509 u510 u511 u512 u513 u514 u515 u516 u517 u518 u519 u520 u521 u522 u523 u524 u525 u526 u527 u528 u529 u530 u531 u532 u533 u534 u535 u536 u537 u538 u539 u540 u541 u542 u543 u544 u545 u546 u547 u548 u549 u550 u551 u552 u553 u554 u555 u556 u557 u558 u559 u560 u561 u562 u563 u564 u565 u566 u567 u568 u569 u570 u571 u572 u573 u574 u575 u576 u577 u578 u579 u580 u581 u582 u583 u584 u585 u586 u587 u588 u589 u590 u591 u592 u593 u594 u595 u596 u597 u598 u599 u600 u601 u602 u603 u604 u605 u606 u607 u608 u609 u610 u611 u612 u613 : Value}
    (hK : ∀ (x60 x61 x62 x63 x64 x65 x66 x456 x457 x458 x459 x460 x461 x462 x463 x464 x465 x466 x467 x468 x469 x470 x471 x472 x473 x474 x475 x476 x477 x478 x479 x480 x481 x482 x483 x484 x485 x486 x487 x488 x489 x490 x491 x492 x493 x494 x495 x496 x497 x498 x499 x500 x501 x502 x503 x504 x505 x506 x507 x508 x509 x510 x511 x512 x513 x514 x515 x516 x517 x518 x519 x520 x521 x522 x523 x524 x525 : Value) (W' : World), S7 mb xb nb ge n0 (n + 1) now f0 (upd g k Fk) es W' → Two xb xb wr W' → K { tmps := #[u0, u1, u2, u3, u4, u5, u6, u7, u8, u9, u10, u11, u12, u13, u14, u15, u16, u17, u18, u19, u20, u21, u22, u23, u24, u25, u26, .slice (some ⟨ge, 0, none⟩) L ec, u28, u29, u30, u31, u32, u33, u34, u35, u36, .map (some mb), u38, u39, u40, u41, u42, u43, u44, u45, u46, u47, u48, u49, u50, .pointer (some ⟨nb, 0, none⟩), u52, u53, .map (some xb), u55, u56, .int .u32 k, .int .i64 last, u59, x60, x61, x62, x63, x64, x65, x66, u67, u68, u69, u70, u71, u72, u73, u74, u75, u76, u77, u78, u79, u80, u81, u82, u83, u84, u85, u86, u87, u88, u89, u90, u91, u92, u93, u94, u95, u96, u97, u98, u99, u100, u101, u102, u103, u104, u105, u106, u107, u108, u109, u110, u111, u112, u113, u114, u115, u116, u117, u118, u119, u120, u121, u122, u123, u124, u125, u126, u127, u128, u129, u130, u131, u132, u133, u134, u135, u136, u137, u138, u139, u140, u141, u142, u143, u144, u145, u146, u147, u148, u149, u150, u151, u152, u153, u154, u155, u156, u157, u158, u159, u160, u161, u162, u163, u164, u165, u166, u167, u168, u169, u170, u171, u172, u173, u174, u175, u176, u177, u178, u179, u180, u181, u182, u183, u184, u185, u186, u187, u188, u189, u190, u191, u192, u193, u194, u195, u196, u197, u198, u199, u200, u201, u202, u203, u204, u205, u206, u207, u208, u209, u210, u211, u212, u213, u214, u215, u216, u217, u218, u219, u220, u221, u222, u223, u224, u225, u226, u227, u228, u229, u230, u231, u232, u233, u234, u235, u236, u237, u238, u239, u240, u241, u242, u243, u244, u245, u246, u247, u248, u249, u250, u251, u252, u253, u254, u255, u256, u257, u258, u259, u260, u261, u262, u263, u264, u265, u266, u267, u268, u269, u270, u271, u272, u273, u274, u275, u276, u277, u278, u279, u280, u281, u282, u283, u284, u285, u286, u287, u288, u289, u290, u291, u292, u293, u294, u295, u296, u297, u298, u299, u300, u301, u302, u303, u304, u305, u306, u307, u308, u309, u310, u311, u312, u313, u314, u315, u316, u317, u318, u319, u320, u321, u322, u323, u324, u325, u326, u327, u328, u329, u330, u331, u332, u333, u334, u335, u336, u337, u338, u339, u340, u341, u342, u343, u344, u345, u346, u347, u348, u349, u350, u351, u352, u353, u354, u355, u356, u357, u358, u359, u360, u361, u362, u363, u364, u365, u366, u367, u368, u369, u370, u371, u372, u373, u374, u375, u376, u377, u378, u379, u380, u381, u382, u383, u384, u385, u386, u387, u388, u389, u390, u391, u392, u393, u394, u395, u396, u397, u398, u399, u400, u401, u402, u403, u404, u405, u406, u407, u408, u409, u410, u411, u412, u413, u414, u415, u416, u417, u418, u419, u420, u421, u422, u423, u424, u425, u426, u427, u428, u429, u430, u431, u432, u433, u434, u435, u436, u437, u438, u439, u440, u441, u442, u443, u444, u445, u446, u447, u448, u449, u450, u451, u452, u453, u454, .bool (decide (last < 0)), x456, x457, x458, x459, x460, x461, x462, x463, x464, x465, x466, x467, x468, x469, x470, x471, x472, x473, x474, x475, x476, x477, x478, x479, x480, x481, x482, x483, x484, x485, x486, x487, x488, x489, x490, x491, x492, x493, x494, x495, x496, x497, x498, x499, x500, x501, x502, x503, x504, x505, x506, x507, x508, x509, x510, x511, x512, x513, x514, x515, x516, x517, x518, x519, x520, x521, x522, x523, x524, x525, u526, u527, u528, u529, u530, u531, u532, u533, u534, u535, u536, u537, u538, u539, u540, u541, u542, u543, u544, u545, u546, u547, u548, u549, u550, u551, u552, u553, u554, u555, u556, u557, u558, u559, u560, u561, u562, u563, u564, u565, u566, u567, u568, u569, u570, u571, u572, u573, u574, u575, u576, u577, u578, u579, u580, u581, u582, u583, u584, u585, u586, u587, u588, u589, u590, u591, u592, u593, u594, u595, u596, u597, u598, u599, u600, u601, u602, u603, u604, u605, u606, u607, u608, u609, u610, u611, u612, u613], defers := [] } W') :
    Code.wp Ybaz.prog (lawCnd 455) (Exit.then K Q) { tmps := #[u0, u1, u2, u3, u4, u5, u6, u7, u8, u9, u10, u11, u12, u13, u14, u15, u16, u17, u18, u19, u20, u21, u22, u23, u24, u25, u26, .slice (some ⟨ge, 0, none⟩) L ec, u28, u29, u30, u31, u32, u33, u34, u35, u36, .map (some mb), u38, u39, u40, u41, u42, u43, u44, u45, u46, u47, u48, u49, u50, .pointer (some ⟨nb, 0, none⟩), u52, u53, .map (some xb), u55, u56, .int .u32 k, .int .i64 last, u59, u60, u61, u62, u63, u64, u65, u66, u67, u68, u69, u70, u71, u72, u73, u74, u75, u76, u77, u78, u79, u80, u81, u82, u83, u84, u85, u86, u87, u88, u89, u90, u91, u92, u93, u94, u95, u96, u97, u98, u99, u100, u101, u102, u103, u104, u105, u106, u107, u108, u109, u110, u111, u112, u113, u114, u115, u116, u117, u118, u119, u120, u121, u122, u123, u124, u125, u126, u127, u128, u129, u130, u131, u132, u133, u134, u135, u136, u137, u138, u139, u140, u141, u142, u143, u144, u145, u146, u147, u148, u149, u150, u151, u152, u153, u154, u155, u156, u157, u158, u159, u160, u161, u162, u163, u164, u165, u166, u167, u168, u169, u170, u171, u172, u173, u174, u175, u176, u177, u178, u179, u180, u181, u182, u183, u184, u185, u186, u187, u188, u189, u190, u191, u192, u193, u194, u195, u196, u197, u198, u199, u200, u201, u202, u203, u204, u205, u206, u207, u208, u209, u210, u211, u212, u213, u214, u215, u216, u217, u218, u219, u220, u221, u222, u223, u224, u225, u226, u227, u228, u229, u230, u231, u232, u233, u234, u235, u236, u237, u238, u239, u240, u241, u242, u243, u244, u245, u246, u247, u248, u249, u250, u251, u252, u253, u254, u255, u256, u257, u258, u259, u260, u261, u262, u263, u264, u265, u266, u267, u268, u269, u270, u271, u272, u273, u274, u275, u276, u277, u278, u279, u280, u281, u282, u283, u284, u285, u286, u287, u288, u289, u290, u291, u292, u293, u294, u295, u296, u297, u298, u299, u300, u301, u302, u303, u304, u305, u306, u307, u308, u309, u310, u311, u312, u313, u314, u315, u316, u317, u318, u319, u320, u321, u322, u323, u324, u325, u326, u327, u328, u329, u330, u331, u332, u333, u334, u335, u336, u337, u338, u339, u340, u341, u342, u343, u344, u345, u346, u347, u348, u349, u350, u351, u352, u353, u354, u355, u356, u357, u358, u359, u360, u361, u362, u363, u364, u365, u366, u367, u368, u369, u370, u371, u372, u373, u374, u375, u376, u377, u378, u379, u380, u381, u382, u383, u384, u385, u386, u387, u388, u389, u390, u391, u392, u393, u394, u395, u396, u397, u398, u399, u400, u401, u402, u403, u404, u405, u406, u407, u408, u409, u410, u411, u412, u413, u414, u415, u416, u417, u418, u419, u420, u421, u422, u423, u424, u425, u426, u427, u428, u429, u430, u431, u432, u433, u434, u435, u436, u437, u438, u439, u440, u441, u442, u443, u444, u445, u446, u447, u448, u449, u450, u451, u452, u453, u454, .bool (decide (last < 0)), u456, u457, u458, u459, u460, u461, u462, u463, u464, u465, u466, u467, u468, u469, u470, u471, u472, u473, u474, u475, u476, u477, u478, u479, u480, u481, u482, u483, u484, u485, u486, u487, u488, u489, u490, u491, u492, u493, u494, u495, u496, u497, u498, u499, u500, u501, u502, u503, u504, u505, u506, u507, u508, u509, u510, u511, u512, u513, u514, u515, u516, u517, u518, u519, u520, u521, u522, u523, u524, u525, u526, u527, u528, u529, u530, u531, u532, u533, u534, u535, u536, u537, u538, u539, u540, u541, u542, u543, u544, u545, u546, u547, u548, u549, u550, u551, u552, u553, u554, u555, u556, u557, u558, u559, u560, u561, u562, u563, u564, u565, u566, u567, u568, u569, u570, u571, u572, u573, u574, u575, u576, u577, u578, u579, u580, u581, u582, u583, u584, u585, u586, u587, u588, u589, u590, u591, u592, u593, u594, u595, u596, u597, u598, u599, u600, u601, u602, u603, u604, u605, u606, u607, u608, u609, u610, u611, u612, u613], defers := [] } wr := by
  have HS : Hid (S7 mb xb nb ge n0 n now f0 g es wr) := hS
  have HK : Hid _ := hK
  have HGK : Hid (g k = none) := hgk
  have HKU : Hid (u32ok k) := hk
  have HL : Hid (L = es.length) := hL
  have HN : Hid (n < maxLen) := Nat.lt_of_le_of_lt hn (by decide)
  clear hS hK hgk hk hL
  have HF : Hid (Fk = some ⟨now, sentOf (run now f0 (es.take j) k), false⟩) := hF
  have HK3 : Hid (∀ e ∈ es, e.1 = 0 ∨ e.1 = 1 ∨ e.1 = 2) := hk3
  have HNN : Hid (n ≤ 10000) := hn
  subst hl1
  clear hF hk3 hn
  have hjl : j < es.length := by have := HL.out; omega
  have hltn : j < L := hj
  have hltI : (j : Int) < L := by omega
  obtain ⟨x, hx⟩ : ∃ x, es[j]? = some x := ⟨es[j], List.getElem?_eq_getElem hjl⟩
  obtain ⟨c0, c1⟩ := HS.out.evs j x hx
  have hx1 : x.1 = 1 := by
    have := hkd x hx
    exact this
  clear hjl hx hkd
  have hge := HS.out.ge_lt
  have E1 : IntKind.i64.wrap ((j : Int) - 1) = (j : Int) - 1 := by simp [IntKind.wrap, IntKind.bits, IntKind.signed]; omega
  have S2 : Hid _ := HS.out.step ((Below.refl _ wr).alloc (Nat.le_refl _) (.cells #[.int .u64 0, .int .i64 0, .pointer none] 48))
  have TT : Hid ((wr.alloc (.cells #[.int .u64 0, .int .i64 0, .pointer none] 48)).heap[wr.heap.size]? = some (.cells #[.int .u64 0, .int .i64 0, .pointer none] 48)) := (MapKept.heap_alloc wr _).1
  have B2 : Hid (Below wr.heap.size wr (wr.alloc (.cells #[.int .u64 0, .int .i64 0, .pointer none] 48))) := (Below.refl _ wr).alloc (Nat.le_refl _) _
  have LT : Hid _ := HS.out.lts
  conv => arg 2; whnf
  go_upto_block 17 with fail
  generalize hV : wr.alloc (.cells #[.int .u64 0, .int .i64 0, .pointer none] 48) = V at S2 TT B2 ⊢
  generalize htb : wr.heap.size = tb at TT LT ⊢
  have HTB : Hid (tb = wr.heap.size) := htb.symm
  clear hV htb c0 c1 hge
  refine loop9 ge L ec nb tb j k now f0 es V HL.out hl hltn S2.out.evs S2.out.ge_lt S2.out.nw TT.out HK3.out _ _ ?_
  intro fnd t _ _ _ _ _ _ _ _ _ _ _ _ _ _ _ _ _ _ _ _ _ _ _ _ _ W1 hFnd hT1 hTwo1
  have S3 : Hid _ := S2.out.own hTwo1 (by have := LT.out; omega) (by have := LT.out; omega) (by have := LT.out; omega) (by have := LT.out; omega)
  have T1 : Hid (W1.heap[tb]? = some (.cells #[.int .u64 t.n, .int .i64 t.s, .pointer none] 48)) := hT1
  have TW : Hid (Two xb xb wr W1) := ⟨hTwo1.os.trans B2.out.os, hTwo1.tape.trans B2.out.tape, hTwo1.output.trans B2.out.output, Nat.le_trans B2.out.size hTwo1.size, fun i hi _ _ => (hTwo1.block i (Nat.lt_of_lt_of_le hi B2.out.size) (by have := HTB.out; omega) (by have := HTB.out; omega)).trans (B2.out.block i hi)⟩
  clear hT1 hTwo1
  rcases hFnd with ⟨rfl, he⟩ | ⟨rfl, rfl, he⟩
  · have HE : Hid _ := he
    clear he
    go_upto_region 131 with fail
    refine reg131 mb xb nb ge tb n0 n k now t f0 g es _ S3.out T1.out HKU.out HNN.out _ ?_
    intro _ _ _ _ _ W2 hS2 hT2
    have S4 : Hid _ := hS2
    have T4 : Hid _ := hT2
    clear hS2 hT2
    go_wp2_with fail
    refine HK.out _ _ _ _ _ _ _ _ _ _ _ _ _ _ _ _ _ _ _ _ _ _ _ _ _ _ _ _ _ _ _ _ _ _ _ _ _ _ _ _ _ _ _ _ _ _ _ _ _ _ _ _ _ _ _ _ _ _ _ _ _ _ _ _ _ _ _ _ _ _ _ _ _ _ _ _ _ _ ?_ (TW.out.trans T4.out)
    rw [HF.out, HE.out]
    exact S4.out
  · have HE : Hid _ := he
    clear he
    obtain ⟨c1, hm1⟩ := (S3.out).mem
    have LK := mp_look_ok hm1 Ybaz.underlying41 (Ybaz.zeroValue51 W1) HKU.out
    rw [show (vals f0 k).getD (.agg #[.int .u64 0, .int .i64 0, .pointer none, .int .u64 0, .int .i64 0, .pointer none, .bool false]) = memV ((f0 k).getD Mem.zero) from vals_getD f0 k, vals_some] at LK
    clear hm1
    cases hfk : f0 k with
    | none =>
      rw [hfk] at LK HE
      unfold memV Mem.zero Tm.zero at LK
      simp only [Option.getD_none, Option.isSome_none] at LK
      clear hfk
      have B3 : Hid (Below W1.heap.size W1 (W1.alloc (.cells #[.int .u64 0, .int .i64 0, .pointer none, .int .u64 0, .int .i64 0, .pointer none, .bool false] 51))) := (Below.refl _ W1).alloc (Nat.le_refl _) _
      go_upto_region 131 with fail
      refine reg131 mb xb nb ge tb n0 n k now Tm.zero f0 g es _ (S3.out.step B3.out) ((B3.out.block tb (Array.getElem?_eq_some_iff.1 T1.out).1).trans T1.out) HKU.out HNN.out _ ?_
      intro _ _ _ _ _ W2 hS2 hT2
      have S4 : Hid _ := hS2
      have T4 : Hid _ := hT2
      clear hS2 hT2
      go_wp2_with fail
      refine HK.out _ _ _ _ _ _ _ _ _ _ _ _ _ _ _ _ _ _ _ _ _ _ _ _ _ _ _ _ _ _ _ _ _ _ _ _ _ _ _ _ _ _ _ _ _ _ _ _ _ _ _ _ _ _ _ _ _ _ _ _ _ _ _ _ _ _ _ _ _ _ _ _ _ _ _ _ _ _ ?_ ((TW.out.trans (Two.below B3.out)).trans T4.out)
      rw [HF.out, HE.out]
      exact S4.out
    | some q =>
      rw [hfk] at LK HE
      unfold memV at LK
      simp only [Option.getD_some, Option.isSome_some] at LK
      clear hfk
      have B3 : Hid (Below W1.heap.size W1 (W1.alloc (.cells #[.int .u64 q.heard.n, .int .i64 q.heard.s, .pointer none, .int .u64 q.sent.n, .int .i64 q.sent.s, .pointer none, .bool q.sender] 51))) := (Below.refl _ W1).alloc (Nat.le_refl _) _
      have L1 : Hid (tb < W1.heap.size) := (Array.getElem?_eq_some_iff.1 T1.out).1
      have hne : ¬ tb = W1.heap.size := by have := L1.out; omega
      have T5 : Hid _ := (B3.out.block tb L1.out).trans T1.out
      have P6 : Hid ((W1.alloc (.cells #[.int .u64 q.heard.n, .int .i64 q.heard.s, .pointer none, .int .u64 q.sent.n, .int .i64 q.sent.s, .pointer none, .bool q.sender] 51)).heap[W1.heap.size]? = some (.cells #[.int .u64 q.heard.n, .int .i64 q.heard.s, .pointer none, .int .u64 q.sent.n, .int .i64 q.sent.s, .pointer none, .bool q.sender] 51)) := (MapKept.heap_alloc W1 _).1
      have S6 : Hid _ := S3.out.step B3.out
      go_upto_region 130 with fail
      generalize hV6 : W1.alloc (.cells #[.int .u64 q.heard.n, .int .i64 q.heard.s, .pointer none, .int .u64 q.sent.n, .int .i64 q.sent.s, .pointer none, .bool q.sender] 51) = V6 at S6 T5 B3 P6 ⊢
      generalize hq6 : W1.heap.size = q6 at P6 hne ⊢
      have t0' : V6.cell? ⟨tb, 0, none⟩ = some (.int .u64 Tm.zero.n) := cell_of T5.out
      have t1' : V6.cell? ⟨tb, 1, none⟩ = some (.int .i64 Tm.zero.s) := cell_of T5.out
      have t2' : V6.cell? ⟨tb, 2, none⟩ = some (.pointer none) := cell_of T5.out
      have f0' : V6.frozen? ⟨tb, 0, none⟩ = false := frozen_of T5.out
      have f1' : V6.frozen? ⟨tb, 1, none⟩ = false := frozen_of T5.out
      have f2' : V6.frozen? ⟨tb, 2, none⟩ = false := frozen_of T5.out
      have q3' : V6.cell? ⟨q6, 3, none⟩ = some (.int .u64 q.sent.n) := cell_of P6.out
      have q4' : V6.cell? ⟨q6, 4, none⟩ = some (.int .i64 q.sent.s) := cell_of P6.out
      have q5' : V6.cell? ⟨q6, 5, none⟩ = some (.pointer none) := cell_of P6.out
      clear hV6 hq6
      go_upto_region 131 with fail
      refine reg131 mb xb nb ge tb n0 n k now q.sent f0 g es _ (S6.out.own (set3_two (Two.refl tb tb _) 0 q.sent) (by have := LT.out; omega) (by have := LT.out; omega) (by have := LT.out; omega) (by have := LT.out; omega)) (set3_heap (i := 0) T5.out q.sent) HKU.out HNN.out _ ?_
      intro _ _ _ _ _ W2 hS2 hT2
      have S4 : Hid _ := hS2
      have T4 : Hid _ := hT2
      clear hS2 hT2 t0' t1' t2' f0' f1' f2' q3' q4' q5'
      go_wp2_with fail
      refine HK.out _ _ _ _ _ _ _ _ _ _ _ _ _ _ _ _ _ _ _ _ _ _ _ _ _ _ _ _ _ _ _ _ _ _ _ _ _ _ _ _ _ _ _ _ _ _ _ _ _ _ _ _ _ _ _ _ _ _ _ _ _ _ _ _ _ _ _ _ _ _ _ _ _ _ _ _ _ _ ?_ (((TW.out.trans (Two.below B3.out)).own2 (set3_two (Two.refl tb tb _) 0 q.sent) (by have := HTB.out; omega)).trans T4.out)
      rw [HF.out, HE.out]
      exact S4.out
end Go.Proofs.YbulkdsruGreatDoor
