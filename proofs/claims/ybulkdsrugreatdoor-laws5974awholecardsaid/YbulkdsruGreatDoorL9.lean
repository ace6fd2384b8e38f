import Derived.Test.YbulkdsruGreatDoorLp
namespace Go.Proofs.YbulkdsruGreatDoor
open Go.RowKit Go.Op
set_option linter.unusedVariables false
set_option linter.unusedSimpArgs false
def Fnd (now : Tm) (f : Ms) (es : List (Int × Int)) (k : Int) (top : Nat) (fnd : Bool) (t : Tm) : Prop :=
  (fnd = true ∧ sentOf (run now f (es.take top) k) = t) ∨ (fnd = false ∧ t = Tm.zero ∧ sentOf (run now f (es.take top) k) = sentOf (f k))
set_option maxRecDepth 100000 in
set_option maxHeartbeats 4000000 in
theorem loop9 (ge L ec nb tb top : Nat) (k : Int) (now : Tm) (f : Ms) (es : List (Int × Int)) (W : World) (hL : L = es.length) (hl : L ≤ 2000) (htop : top < L) (hE : RowE W ge es) (hge : ge < W.heap.size) (hN : W.heap[nb]? = some (.cells #[.int .u64 now.n, .int .i64 now.s, .pointer none] 48)) (hT : W.heap[tb]? = some (.cells #[.int .u64 0, .int .i64 0, .pointer none] 48)) (hk3 : ∀ e ∈ es, e.1 = 0 ∨ e.1 = 1 ∨ e.1 = 2)
    (K : Act → World → Prop) (Q : Exit → Act → World → Prop) {u0 u1 u2 u3 u4 u5 u6 u7 u8 u9 u10 u11 u12 u13 u14 u15 u16 u17 u18 u19 u20 u21 u22 u23 u24 u25 u26 u28 u29 u30 u31 u32 u33 u34 u35 u36 u37 u38 u39 u40 u41 u42 u43 u44 u45 u46 u47 u48 u49 u50 u52 u53 u54 u55 u56 u58 u59 u60 u61 u65 u66 u67 u68 u69 u70 u71 u72 u73 u74 u75 u76 u77 u78 u79 u80 u81 u82 u83 u84 u85 u86 u87 u88 u89 u90 u91 u92 u93 u94 u95 u96 u97 u98 u99 u100 u101 u102 u103 u104 u105 u106 u107 u108 u109 u110 u111 u112 u113 u114 u115 u116 u117 u118 u119 u120 u121 u122 u123 u124 u125 u126 u127 u128 u129 u130 u131 u132 u133 u134 u135 u136 u137 u138 u139 u140 u141 u142 u143 u144 u145 u146 u147 u148 u149 u150 u151 u152 u153 u154 u155 u156 u157 u158 u159 u160 u161 u162 u163 u164 u165 u166 u167 u168 u169 u170 u171 u172 u173 u174 u175 u176 u177 u178 u179 u180 u181 u182 u183 u184 u185 u186 u187 u188 u189 u190 u191 u192 u193 u194 u195 u196 u197 u198 u199 u200 u201 u202 u203 u204 u205 u206 u207 u208 u209 u210 u211 u212 u213 u214 u215 u216 u217 u218 u219 u220 u221 u222 u223 u224 u225 u226 u227 u228 u229 u230 u231 u232 u233 u234 u235 u236 u237 u238 u239 u240 u241 u242 u243 u244 u245 u246 u247 u248 u249 u250 u251 u252 u253 u254 u255 u256 u257 u258 u259 u260 u261 u262 u263 u264 u265 u266 u267 u268 u269 u270 u271 u272 u273 u274 u275 u276 u277 u278 u279 u280 u281 u282 u283 u284 u285 u286 u287 u288 u289 u290 u291 u292 u293 u294 u295 u296 u297 u298 u299 u300 u301 u302 u303 u304 u305 u306 u307 u308 u309 u310 u311 u312 u313 u314 u315 u316 u317 u318 u319 u320 u321 u322 u323 u324 u325 u326 u327 u328 u329 u330 u331 u332 u333 u334 u335 u336 u337 u338 u339 u340 u341 u342 u343 u344 u345 u346 u347 u348 u349 u350 u351 u352 u353 u354 u355 u356 u357 u358 u359 u360 u361 u362 u363 u364 u365 u366 u367 u368 u369 u370 u371 u372 u373 u374 u375 u376 u377 u378 u379 u380 u381 u382 u383 u384 u385 u386 u387 u388 u389 u390 u391 u392 u393 u394 u395 u396 u397 u398 u399 u400 u401 u402 u403 u404 u405 u406 u407 u408 u409 u410 u411 u412 u413 u414 u415 u416 u417 u418 u419 u420 u421 u422 u423 u424 u425 u426 u427 u428 u429 u430 u431 u432 u433 u434 u435 u436 u437 u438 u439 u440 u441 u442 u443 u444 u445 u446 u447 u448 u449 u450 u451 u452 u453 u454 u455 u456 u457 u458 u459 u460 u461 u462 u463 u464 u465 u466 u467 u468 u469 u470 u471 u472 u473 u474 u475 u476 u477 u478 u479 u480 u481 u482 u483 u484 u485 u486 u487 u488 u489 u490 u491 u492 u493 u494 u495 u496 u497 u498 u499 u500 u501 u502 u503 u504 u505 u506 u507 u508 u509 u510 u511 u512 u513 u514 u515 u516 u517 u518 u519 u520 u521 u522 u523 u524 u525 u526 u527 u528 u529 u530 u531 u532 u533 u534 u535 u536 u537 u538 u539 u540 u541 u542 u543 u544 u545 u546 u547 u548 u549 u550 u551 u552 u553 u554 u555 u556 u557 u558 u559 u560 u561 u562 u563 u564 u565 u566 u567 u568 u569 u570 u571 u572 u573 u574 u575 u576 u577 u578 u579 u580 u581 u582 u583 u584 u585 u586 u587 u588 u589 u590 u591 u592 u593 u594 u595 u596 u597 u598 u599 u600 u601 u602 u603 u604 u605 u606 u607 u608 u609 u610 u611 u612 u613 : Value}
    (hK : ∀ (fnd : Bool) (t : Tm) (x64 x486 x487 x488 x489 x490 x491 x492 x493 x494 x495 x496 x497 x498 x499 x500 x501 x502 x503 x504 x505 x506 x507 x508 x509 : Value) (W' : World), Fnd now f es k top fnd t → W'.heap[tb]? = some (.cells #[.int .u64 t.n, .int .i64 t.s, .pointer none] 48) → Two tb tb W W' → K { tmps := #[u0, u1, u2, u3, u4, u5, u6, u7, u8, u9, u10, u11, u12, u13, u14, u15, u16, u17, u18, u19, u20, u21, u22, u23, u24, u25, u26, .slice (some ⟨ge, 0, none⟩) L ec, u28, u29, u30, u31, u32, u33, u34, u35, u36, u37, u38, u39, u40, u41, u42, u43, u44, u45, u46, u47, u48, u49, u50, .pointer (some ⟨nb, 0, none⟩), u52, u53, u54, u55, u56, .int .u32 k, u58, u59, u60, u61, .pointer (some ⟨tb, 0, none⟩), .bool fnd, x64, u65, u66, u67, u68, u69, u70, u71, u72, u73, u74, u75, u76, u77, u78, u79, u80, u81, u82, u83, u84, u85, u86, u87, u88, u89, u90, u91, u92, u93, u94, u95, u96, u97, u98, u99, u100, u101, u102, u103, u104, u105, u106, u107, u108, u109, u110, u111, u112, u113, u114, u115, u116, u117, u118, u119, u120, u121, u122, u123, u124, u125, u126, u127, u128, u129, u130, u131, u132, u133, u134, u135, u136, u137, u138, u139, u140, u141, u142, u143, u144, u145, u146, u147, u148, u149, u150, u151, u152, u153, u154, u155, u156, u157, u158, u159, u160, u161, u162, u163, u164, u165, u166, u167, u168, u169, u170, u171, u172, u173, u174, u175, u176, u177, u178, u179, u180, u181, u182, u183, u184, u185, u186, u187, u188, u189, u190, u191, u192, u193, u194, u195, u196, u197, u198, u199, u200, u201, u202, u203, u204, u205, u206, u207, u208, u209, u210, u211, u212, u213, u214, u215, u216, u217, u218, u219, u220, u221, u222, u223, u224, u225, u226, u227, u228, u229, u230, u231, u232, u233, u234, u235, u236, u237, u238, u239, u240, u241, u242, u243, u244, u245, u246, u247, u248, u249, u250, u251, u252, u253, u254, u255, u256, u257, u258, u259, u260, u261, u262, u263, u264, u265, u266, u267, u268, u269, u270, u271, u272, u273, u274, u275, u276, u277, u278, u279, u280, u281, u282, u283, u284, u285, u286, u287, u288, u289, u290, u291, u292, u293, u294, u295, u296, u297, u298, u299, u300, u301, u302, u303, u304, u305, u306, u307, u308, u309, u310, u311, u312, u313, u314, u315, u316, u317, u318, u319, u320, u321, u322, u323, u324, u325, u326, u327, u328, u329, u330, u331, u332, u333, u334, u335, u336, u337, u338, u339, u340, u341, u342, u343, u344, u345, u346, u347, u348, u349, u350, u351, u352, u353, u354, u355, u356, u357, u358, u359, u360, u361, u362, u363, u364, u365, u366, u367, u368, u369, u370, u371, u372, u373, u374, u375, u376, u377, u378, u379, u380, u381, u382, u383, u384, u385, u386, u387, u388, u389, u390, u391, u392, u393, u394, u395, u396, u397, u398, u399, u400, u401, u402, u403, u404, u405, u406, u407, u408, u409, u410, u411, u412, u413, u414, u415, u416, u417, u418, u419, u420, u421, u422, u423, u424, u425, u426, u427, u428, u429, u430, u431, u432, u433, u434, u435, u436, u437, u438, u439, u440, u441, u442, u443, u444, u445, u446, u447, u448, u449, u450, u451, u452, u453, u454, u455, u456, u457, u458, u459, u460, u461, u462, u463, u464, u465, u466, u467, u468, u469, u470, u471, u472, u473, u474, u475, u476, u477, u478, u479, u480, u481, u482, u483, u484, u485, x486, x487, x488, x489, x490, x491, x492, x493, x494, x495, x496, x497, x498, x499, x500, x501, x502, x503, x504, x505, x506, x507, x508, x509, u510, u511, u512, u513, u514, u515, u516, u517, u518, u519, u520, u521, u522, u523, u524, u525, u526, u527, u528, u529, u530, u531, u532, u533, u534, u535, u536, u537, u538, u539, u540, u541, u542, u543, u544, u545, u546, u547, u548, u549, u550, u551, u552, u553, u554, u555, u556, u557, u558, u559, u560, u561, u562, u563, u564, u565, u566, u567, u568, u569, u570, u571, u572, u573, u574, u575, u576, u577, u578, u579, u580, u581, u582, u583, u584, u585, u586, u587, u588, u589, u590, u591, u592, u593, u594, u595, u596, u597, u598, u599, u600, u601, u602, u603, u604, u605, u606, u607, u608, u609, u610, u611, u612, u613], defers := [] } W') :
    Code.wp Ybaz.prog (lawBlk 17) (Exit.then K Q) { tmps := #[u0, u1, u2, u3, u4, u5, u6, u7, u8, u9, u10, u11, u12, u13, u14, u15, u16, u17, u18, u19, u20, u21, u22, u23, u24, u25, u26, .slice (some ⟨ge, 0, none⟩) L ec, u28, u29, u30, u31, u32, u33, u34, u35, u36, u37, u38, u39, u40, u41, u42, u43, u44, u45, u46, u47, u48, u49, u50, .pointer (some ⟨nb, 0, none⟩), u52, u53, u54, u55, u56, .int .u32 k, u58, u59, u60, u61, .pointer (some ⟨tb, 0, none⟩), .bool false, .int .i64 ((top : Int) - 1), u65, u66, u67, u68, u69, u70, u71, u72, u73, u74, u75, u76, u77, u78, u79, u80, u81, u82, u83, u84, u85, u86, u87, u88, u89, u90, u91, u92, u93, u94, u95, u96, u97, u98, u99, u100, u101, u102, u103, u104, u105, u106, u107, u108, u109, u110, u111, u112, u113, u114, u115, u116, u117, u118, u119, u120, u121, u122, u123, u124, u125, u126, u127, u128, u129, u130, u131, u132, u133, u134, u135, u136, u137, u138, u139, u140, u141, u142, u143, u144, u145, u146, u147, u148, u149, u150, u151, u152, u153, u154, u155, u156, u157, u158, u159, u160, u161, u162, u163, u164, u165, u166, u167, u168, u169, u170, u171, u172, u173, u174, u175, u176, u177, u178, u179, u180, u181, u182, u183, u184, u185, u186, u187, u188, u189, u190, u191, u192, u193, u194, u195, u196, u197, u198, u199, u200, u201, u202, u203, u204, u205, u206, u207, u208, u209, u210, u211, u212, u213, u214, u215, u216, u217, u218, u219, u220, u221, u222, u223, u224, u225, u226, u227, u228, u229, u230, u231, u232, u233, u234, u235, u236, u237, u238, u239, u240, u241, u242, u243, u244, u245, u246, u247, u248, u249, u250, u251, u252, u253, u254, u255, u256, u257, u258, u259, u260, u261, u262, u263, u264, u265, u266, u267, u268, u269, u270, u271, u272, u273, u274, u275, u276, u277, u278, u279, u280, u281, u282, u283, u284, u285, u286, u287, u288, u289, u290, u291, u292, u293, u294, u295, u296, u297, u298, u299, u300, u301, u302, u303, u304, u305, u306, u307, u308, u309, u310, u311, u312, u313, u314, u315, u316, u317, u318, u319, u320, u321, u322, u323, u324, u325, u326, u327, u328, u329, u330, u331, u332, u333, u334, u335, u336, u337, u338, u339, u340, u341, u342, u343, u344, u345, u346, u347, u348, u349, u350, u351, u352, u353, u354, u355, u356, u357, u358, u359, u360, u361, u362, u363, u364, u365, u366, u367, u368, u369, u370, u371, u372, u373, u374, u375, u376, u377, u378, u379, u380, u381, u382, u383, u384, u385, u386, u387, u388, u389, u390, u391, u392, u393, u394, u395, u396, u397, u398, u399, u400, u401, u402, u403, u404, u405, u406, u407, u408, u409, u410, u411, u412, u413, u414, u415, u416, u417, u418, u419, u420, u421, u422, u423, u424, u425, u426, u427, u428, u429, u430, u431, u432, u433, u434, u435, u436, u437, u438, u439, u440, u441, u442, u443, u444, u445, u446, u447, u448, u449, u450, u451, u452, u453, u454, u455, u456, u457, u458, u459, u460, u461, u462, u463, u464, u465, u466, u467, u468, u469, u470, u471, u472, u473, u474, u475, u476, u477, u478, u479, u480, u481, u482, u483, u484, u485, u486, u487, u488, u489, u490, u491, u492, u493, u494, u495, u496, u497, u498, u499, u500, u501, u502, u503, u504, u505, u506, u507, u508, u509, u510, u511, u512, u513, u514, u515, u516, u517, u518, u519, u520, u521, u522, u523, u524, u525, u526, u527, u528, u529, u530, u531, u532, u533, u534, u535, u536, u537, u538, u539, u540, u541, u542, u543, u544, u545, u546, u547, u548, u549, u550, u551, u552, u553, u554, u555, u556, u557, u558, u559, u560, u561, u562, u563, u564, u565, u566, u567, u568, u569, u570, u571, u572, u573, u574, u575, u576, u577, u578, u579, u580, u581, u582, u583, u584, u585, u586, u587, u588, u589, u590, u591, u592, u593, u594, u595, u596, u597, u598, u599, u600, u601, u602, u603, u604, u605, u606, u607, u608, u609, u610, u611, u612, u613], defers := [] } W := by
  have HE : Hid (RowE W ge es) := hE
  have HK : Hid _ := hK
  have HL : Hid (L = es.length) := hL
  have HN : Hid (W.heap[nb]? = some (.cells #[.int .u64 now.n, .int .i64 now.s, .pointer none] 48)) := hN
  have HT : Hid (W.heap[tb]? = some (.cells #[.int .u64 0, .int .i64 0, .pointer none] 48)) := hT
  have HK3 : Hid (∀ e ∈ es, e.1 = 0 ∨ e.1 = 1 ∨ e.1 = 2) := hk3
  have n0 : W.cell? ⟨nb, 0, none⟩ = some (.int .u64 now.n) := cell_of hN
  have n1 : W.cell? ⟨nb, 1, none⟩ = some (.int .i64 now.s) := cell_of hN
  have n2 : W.cell? ⟨nb, 2, none⟩ = some (.pointer none) := cell_of hN
  have t0 : W.cell? ⟨tb, 0, none⟩ = some (.int .u64 0) := cell_of hT
  have t1 : W.cell? ⟨tb, 1, none⟩ = some (.int .i64 0) := cell_of hT
  have t2 : W.cell? ⟨tb, 2, none⟩ = some (.pointer none) := cell_of hT
  have f0 : W.frozen? ⟨tb, 0, none⟩ = false := frozen_of hT
  have f1 : W.frozen? ⟨tb, 1, none⟩ = false := frozen_of hT
  have f2 : W.frozen? ⟨tb, 2, none⟩ = false := frozen_of hT
  clear hE hK hL hN hT hk3
  conv => arg 2; whnf
  go_wp2_with fail
  go_loopg [63, 64] (top) (fun m b i wr => m ≤ top ∧ i = .int .i64 ((m : Int) - 1) ∧ b = .bool false ∧ Hid (sentOf (run now f (es.take top) k) = sentOf (run now f (es.take m) k)) ∧ wr = W)
  case atStart => exact ⟨Nat.le_refl _, rfl, rfl, rfl, rfl⟩
  case round =>
    obtain ⟨hj, rfl, rfl, hB, rfl⟩ := hrel
    cases gk with
    | zero =>
      have HB : Hid (Fnd now f es k top false Tm.zero) := .inr ⟨rfl, rfl, hB.out⟩
      clear hB n0 n1 n2 t0 t1 t2 f0 f1 f2
      go_wp2_with fail
      exact HK.out _ _ _ _ _ _ _ _ _ _ _ _ _ _ _ _ _ _ _ _ _ _ _ _ _ _ _ _ HB.out HT.out (Two.refl _ _ _)
    | succ j =>
      have hjl : j < es.length := by have := HL.out; omega
      have hlt : (j : Int) < L := by omega
      have hltn : j < L := by omega
      obtain ⟨x, hx⟩ : ∃ x, es[j] = x := ⟨_, rfl⟩
      have hx3 : x.1 = 0 ∨ x.1 = 1 ∨ x.1 = 2 := hx ▸ HK3.out _ (List.getElem_mem hjl)
      obtain ⟨c0, c1⟩ := HE.out j x (by rw [List.getElem?_eq_getElem hjl, hx])
      have E1 : IntKind.i64.wrap ((j : Int) - 1) = (j : Int) - 1 := by simp [IntKind.wrap, IntKind.bits, IntKind.signed]; omega
      have E0 : (((j + 1 : Nat) : Int) - 1) = (j : Int) := by omega
      rw [E0]
      by_cases hxk : x.2 = k
      · rcases hx3 with h3 | h3 | h3
        · have HF : Hid (Fnd now f es k top true now) := .inl ⟨rfl, by rw [hB.out, run_succ_0 now f es j hjl (by rw [hx]; exact hxk) (by rw [hx]; exact h3)]; rfl⟩
          clear hx hjl hB E0
          go_wp2_with fail
          refine HK.out _ _ _ _ _ _ _ _ _ _ _ _ _ _ _ _ _ _ _ _ _ _ _ _ _ _ _ _ HF.out ?_ ?_
          · exact set3_heap (i := 0) HT.out now
          · exact set3_two (Two.refl tb tb _) 0 now
        · have HF : Hid (sentOf (run now f (es.take top) k) = sentOf (run now f (es.take j) k)) := by
            have := run_succ_1 now f es j hjl (k := k) (by rw [hx]; exact hxk) (by rw [hx]; exact h3)
            rw [hB.out, this]; rfl
          clear hx hjl hB E0
          go_wp2_with fail
          go_roundg j
          · exact ⟨by omega, rfl, rfl, HF.out, rfl⟩
          · omega
        · have HF : Hid (Fnd now f es k top true Tm.zero) := .inl ⟨rfl, by rw [hB.out, run_succ_2 now f es j hjl (by rw [hx]; exact hxk) (by rw [hx, h3]; decide) (by rw [hx, h3]; decide)]; rfl⟩
          clear hx hjl hB E0
          go_wp2_with fail
          exact HK.out _ _ _ _ _ _ _ _ _ _ _ _ _ _ _ _ _ _ _ _ _ _ _ _ _ _ _ _ HF.out HT.out (Two.refl _ _ _)
      · have HF : Hid (sentOf (run now f (es.take top) k) = sentOf (run now f (es.take j) k)) := by
          rw [hB.out, run_succ_other now f es j hjl (by rw [hx]; exact hxk)]; trivial
        clear hx hjl hB E0
        go_wp2_with fail
        go_roundg j
        · exact ⟨by omega, rfl, rfl, HF.out, rfl⟩
        · omega
end Go.Proofs.YbulkdsruGreatDoor
