import Derived.Test.YbulkdsruGreatDoorL9
namespace Go.Proofs.YbulkdsruGreatDoor
open Go.RowKit Go.Op
set_option linter.unusedVariables false
set_option linter.unusedSimpArgs false
/-- The 'if' on the slot n. -/
def cndOf (n : Nat) : Code → Option Code
  | .cond (.tmp t) a c => if t = n then some (.cond (.tmp t) a c) else match cndOf n a with
    | some x => some x
    | none => cndOf n c
  | .block _ c => cndOf n c
  | .seq a c => match cndOf n a with
    | some x => some x
    | none => cndOf n c
  | .loop c => cndOf n c
  | .scope c => cndOf n c
  | _ => none
noncomputable def lawCnd (n : Nat) : Code := (Ybaz.f3.body.bind (cndOf n)).getD .skip
/-- The region of number n. -/
def regOf (n : Nat) : Code → Option Code
  | .region i ops d => if i = n then some (.region i ops d) else none
  | .cond _ a c => match regOf n a with
    | some x => some x
    | none => regOf n c
  | .block _ c => regOf n c
  | .seq a c => match regOf n a with
    | some x => some x
    | none => regOf n c
  | .loop c => regOf n c
  | .scope c => regOf n c
  | _ => none
noncomputable def lawReg (n : Nat) : Code := (Ybaz.f3.body.bind (regOf n)).getD .skip
theorem upd_none {g : Ms} {k : Int} (h : g k = none) : upd g k none = g := by
  funext j; unfold upd; split
  · rename_i e; rw [e, h]
  · rfl
/-- What the loop over the keys knows. -/
structure S7 (mb xb nb ge n0 n : Nat) (now : Tm) (f0 g : Ms) (es : List (Int × Int)) (w : World) : Prop where
  mem : ∃ c, mp w mb n0 c (vals f0)
  exp : ∃ c, mp w xb n c (vals g)
  nw : w.heap[nb]? = some (.cells #[.int .u64 now.n, .int .i64 now.s, .pointer none] 48)
  evs : RowE w ge es
  ge_lt : ge < w.heap.size
  mx : mb ≠ xb
  gx : ge ≠ xb
  nx : nb ≠ xb
theorem S7.step {mb xb nb ge n0 n : Nat} {now : Tm} {f0 g : Ms} {es : List (Int × Int)} {w w' : World} (h : S7 mb xb nb ge n0 n now f0 g es w) (hb : Below w.heap.size w w') : S7 mb xb nb ge n0 n now f0 g es w' := by
  obtain ⟨⟨c1, h1⟩, ⟨c2, h2⟩, h3, h4, h5, h6, h7, h8⟩ := h
  exact ⟨⟨c1, mp_below h1 hb (mp_lt h1)⟩, ⟨c2, mp_below h2 hb (mp_lt h2)⟩, (hb.block nb (Array.getElem?_eq_some_iff.1 h3).1).trans h3, h4.below hb h5, Nat.lt_of_lt_of_le h5 hb.size, h6, h7, h8⟩
theorem S7.own {mb xb nb ge n0 n tb : Nat} {now : Tm} {f0 g : Ms} {es : List (Int × Int)} {w w' : World} (h : S7 mb xb nb ge n0 n now f0 g es w) (hb : Two tb tb w w') (h1 : tb ≠ mb) (h2 : tb ≠ xb) (h3 : tb ≠ nb) (h4 : tb ≠ ge) : S7 mb xb nb ge n0 n now f0 g es w' := by
  obtain ⟨⟨c1, k1⟩, ⟨c2, k2⟩, k3, k4, k5, k6, k7, k8⟩ := h
  exact ⟨⟨c1, mp_block k1 (hb.block mb (mp_lt k1) (Ne.symm h1) (Ne.symm h1))⟩, ⟨c2, mp_block k2 (hb.block xb (mp_lt k2) (Ne.symm h2) (Ne.symm h2))⟩, (hb.block nb (Array.getElem?_eq_some_iff.1 k3).1 (Ne.symm h3) (Ne.symm h3)).trans k3, k4.block (hb.block ge k5 (Ne.symm h4) (Ne.symm h4)), Nat.lt_of_lt_of_le k5 hb.size, k6, k7, k8⟩
theorem S7.put {mb xb nb ge n0 n n' : Nat} {now : Tm} {f0 g : Ms} {es : List (Int × Int)} {w w' : World} (h : S7 mb xb nb ge n0 n now f0 g es w) (ht : w.mapTurned w' xb) {m : Mem} {k : Int} (hm : ∃ c, mp w' xb n' c (updV (vals g) k (some (memV m)))) : S7 mb xb nb ge n0 n' now f0 (upd g k (some m)) es w' := by
  obtain ⟨⟨c1, k1⟩, ⟨c2, k2⟩, k3, k4, k5, k6, k7, k8⟩ := h
  obtain ⟨c, hm⟩ := hm
  have e := vals_upd g k (some m)
  rw [show (some m).map memV = some (memV m) from rfl] at e
  rw [e] at hm
  exact ⟨⟨c1, mp_block k1 (turned_other ht k6)⟩, ⟨c, hm⟩, (turned_other ht k8).trans k3, k4.block (turned_other ht k7), Nat.lt_of_lt_of_le k5 ht.grown.size, k6, k7, k8⟩
theorem S7.lts {mb xb nb ge n0 n : Nat} {now : Tm} {f0 g : Ms} {es : List (Int × Int)} {w : World} (h : S7 mb xb nb ge n0 n now f0 g es w) : mb < w.heap.size ∧ xb < w.heap.size ∧ nb < w.heap.size ∧ ge < w.heap.size :=
  ⟨by obtain ⟨c, h⟩ := h.mem; exact mp_lt h, by obtain ⟨c, h⟩ := h.exp; exact mp_lt h, (Array.getElem?_eq_some_iff.1 h.nw).1, h.ge_lt⟩
theorem S7.more {mb xb nb ge n0 n n' : Nat} {now : Tm} {f0 g : Ms} {es : List (Int × Int)} {w : World} (h : S7 mb xb nb ge n0 n now f0 g es w) (hn : n ≤ n') : S7 mb xb nb ge n0 n' now f0 g es w := by
  obtain ⟨k1, ⟨c2, k2⟩, k3, k4, k5, k6, k7, k8⟩ := h
  exact ⟨k1, ⟨c2, mp_mono k2 hn⟩, k3, k4, k5, k6, k7, k8⟩
theorem Two.own2 {b tb : Nat} {w w1 w2 : World} (h : Two b b w w1) (h2 : Two tb tb w1 w2) (ht : w.heap.size ≤ tb) : Two b b w w2 :=
  ⟨h2.os.trans h.os, h2.tape.trans h.tape, h2.output.trans h.output, Nat.le_trans h.size h2.size, fun i hi h3 h4 => (h2.block i (Nat.lt_of_lt_of_le hi h.size) (by omega) (by omega)).trans (h.block i hi h3 h4)⟩
set_option maxRecDepth 100000 in
set_option maxHeartbeats 4000000 in
theorem reg131 (mb xb nb ge tb n0 n : Nat) (k : Int) (now t : Tm) (f0 g : Ms) (es : List (Int × Int)) (Y : World) (hS : S7 mb xb nb ge n0 n now f0 g es Y) (hT : Y.heap[tb]? = some (.cells #[.int .u64 t.n, .int .i64 t.s, .pointer none] 48)) (hk : u32ok k) (hn : n ≤ 10000)
    (Q : Exit → Act → World → Prop) {u0 u1 u2 u3 u4 u5 u6 u7 u8 u9 u10 u11 u12 u13 u14 u15 u16 u17 u18 u19 u20 u21 u22 u23 u24 u25 u26 u27 u28 u29 u30 u31 u32 u33 u34 u35 u36 u37 u38 u39 u40 u41 u42 u43 u44 u45 u46 u47 u48 u49 u50 u52 u53 u55 u56 u58 u59 u60 u61 u63 u64 u65 u66 u67 u68 u69 u70 u71 u72 u73 u74 u75 u76 u77 u78 u79 u80 u81 u82 u83 u84 u85 u86 u87 u88 u89 u90 u91 u92 u93 u94 u95 u96 u97 u98 u99 u100 u101 u102 u103 u104 u105 u106 u107 u108 u109 u110 u111 u112 u113 u114 u115 u116 u117 u118 u119 u120 u121 u122 u123 u124 u125 u126 u127 u128 u129 u130 u131 u132 u133 u134 u135 u136 u137 u138 u139 u140 u141 u142 u143 u144 u145 u146 u147 u148 u149 u150 u151 u152 u153 u154 u155 u156 u157 u158 u159 u160 u161 u162 u163 u164 u165 u166 u167 u168 u169 u170 u171 u172 u173 u174 u175 u176 u177 u178 u179 u180 u181 u182 u183 u184 u185 u186 u187 u188 u189 u190 u191 u192 u193 u194 u195 u196 u197 u198 u199 u200 u201 u202 u203 u204 u205 u206 u207 u208 u209 u210 u211 u212 u213 u214 u215 u216 u217 u218 u219 u220 u221 u222 u223 u224 u225 u226 u227 u228 u229 u230 u231 u232 u233 u234 u235 u236 u237 u238 u239 u240 u241 u242 u243 u244 u245 u246 u247 u248 u249 u250 u251 u252 u253 u254 u255 u256 u257 u258 u259 u260 u261 u262 u263 u264 u265 u266 u267 u268 u269 u270 u271 u272 u273 u274 u275 u276 u277 u278 u279 u280 u281 u282 u283 u284 u285 u286 u287 u288 u289 u290 u291 u292 u293 u294 u295 u296 u297 u298 u299 u300 u301 u302 u303 u304 u305 u306 u307 u308 u309 u310 u311 u312 u313 u314 u315 u316 u317 u318 u319 u320 u321 u322 u323 u324 u325 u326 u327 u328 u329 u330 u331 u332 u333 u334 u335 u336 u337 u338 u339 u340 u341 u342 u343 u344 u345 u346 u347 u348 u349 u350 u351 u352 u353 u354 u355 u356 u357 u358 u359 u360 u361 u362 u363 u364 u365 u366 u367 u368 u369 u370 u371 u372 u373 u374 u375 u376 u377 u378 u379 u380 u381 u382 u383 u384 u385 u386 u387 u388 u389 u390 u391 u392 u393 u394 u395 u396 u397 u398 u399 u400 u401 u402 u403 u404 u405 u406 u407 u408 u409 u410 u411 u412 u413 u414 u415 u416 u417 u418 u419 u420 u421 u422 u423 u424 u425 u426 u427 u428 u429 u430 u431 u432 u433 u434 u435 u436 u437 u438 u439 u440 u441 u442 u443 u444 u445 u446 u447 u448 u449 u450 u451 u452 u453 u454 u455 u456 u457 u458 u459 u460 u461 u462 u463 u464 u465 u466 u467 u468 u469 u470 u471 u472 u473 u474 u475 u476 u477 u478 u479 u480 u481 u482 u483 u484 u485 u486 u487 u488 u489 u490 u491 u492 u493 u494 u495 u496 u497 u498 u499 u500 u501 u502 u503 u504 u505 u506 u507 u508 u509 u510 u511 u512 u513 u514 u515 u516 u517 u518 u519 u520 u521 u522 u523 u524 u525 u526 u527 u528 u529 u530 u531 u532 u533 u534 u535 u536 u537 u538 u539 u540 u541 u542 u543 u544 u545 u546 u547 u548 u549 u550 u551 u552 u553 u554 u555 u556 u557 u558 u559 u560 u561 u562 u563 u564 u565 u566 u567 u568 u569 u570 u571 u572 u573 u574 u575 u576 u577 u578 u579 u580 u581 u582 u583 u584 u585 u586 u587 u588 u589 u590 u591 u592 u593 u594 u595 u596 u597 u598 u599 u600 u601 u602 u603 u604 u605 u606 u607 u608 u609 u610 u611 u612 u613 : Value}
    (hK : ∀ (x521 x522 x523 x524 x525 : Value) (W' : World), S7 mb xb nb ge n0 (n + 1) now f0 (upd g k (some ⟨now, t, false⟩)) es W' → Two xb xb Y W' → Q .normal { tmps := #[u0, u1, u2, u3, u4, u5, u6, u7, u8, u9, u10, u11, u12, u13, u14, u15, u16, u17, u18, u19, u20, u21, u22, u23, u24, u25, u26, u27, u28, u29, u30, u31, u32, u33, u34, u35, u36, u37, u38, u39, u40, u41, u42, u43, u44, u45, u46, u47, u48, u49, u50, .pointer (some ⟨nb, 0, none⟩), u52, u53, .map (some xb), u55, u56, .int .u32 k, u58, u59, u60, u61, .pointer (some ⟨tb, 0, none⟩), u63, u64, u65, u66, u67, u68, u69, u70, u71, u72, u73, u74, u75, u76, u77, u78, u79, u80, u81, u82, u83, u84, u85, u86, u87, u88, u89, u90, u91, u92, u93, u94, u95, u96, u97, u98, u99, u100, u101, u102, u103, u104, u105, u106, u107, u108, u109, u110, u111, u112, u113, u114, u115, u116, u117, u118, u119, u120, u121, u122, u123, u124, u125, u126, u127, u128, u129, u130, u131, u132, u133, u134, u135, u136, u137, u138, u139, u140, u141, u142, u143, u144, u145, u146, u147, u148, u149, u150, u151, u152, u153, u154, u155, u156, u157, u158, u159, u160, u161, u162, u163, u164, u165, u166, u167, u168, u169, u170, u171, u172, u173, u174, u175, u176, u177, u178, u179, u180, u181, u182, u183, u184, u185, u186, u187, u188, u189, u190, u191, u192, u193, u194, u195, u196, u197, u198, u199, u200, u201, u202, u203, u204, u205, u206, u207, u208, u209, u210, u211, u212, u213, u214, u215, u216, u217, u218, u219, u220, u221, u222, u223, u224, u225, u226, u227, u228, u229, u230, u231, u232, u233, u234, u235, u236, u237, u238, u239, u240, u241, u242, u243, u244, u245, u246, u247, u248, u249, u250, u251, u252, u253, u254, u255, u256, u257, u258, u259, u260, u261, u262, u263, u264, u265, u266, u267, u268, u269, u270, u271, u272, u273, u274, u275, u276, u277, u278, u279, u280, u281, u282, u283, u284, u285, u286, u287, u288, u289, u290, u291, u292, u293, u294, u295, u296, u297, u298, u299, u300, u301, u302, u303, u304, u305, u306, u307, u308, u309, u310, u311, u312, u313, u314, u315, u316, u317, u318, u319, u320, u321, u322, u323, u324, u325, u326, u327, u328, u329, u330, u331, u332, u333, u334, u335, u336, u337, u338, u339, u340, u341, u342, u343, u344, u345, u346, u347, u348, u349, u350, u351, u352, u353, u354, u355, u356, u357, u358, u359, u360, u361, u362, u363, u364, u365, u366, u367, u368, u369, u370, u371, u372, u373, u374, u375, u376, u377, u378, u379, u380, u381, u382, u383, u384, u385, u386, u387, u388, u389, u390, u391, u392, u393, u394, u395, u396, u397, u398, u399, u400, u401, u402, u403, u404, u405, u406, u407, u408, u409, u410, u411, u412, u413, u414, u415, u416, u417, u418, u419, u420, u421, u422, u423, u424, u425, u426, u427, u428, u429, u430, u431, u432, u433, u434, u435, u436, u437, u438, u439, u440, u441, u442, u443, u444, u445, u446, u447, u448, u449, u450, u451, u452, u453, u454, u455, u456, u457, u458, u459, u460, u461, u462, u463, u464, u465, u466, u467, u468, u469, u470, u471, u472, u473, u474, u475, u476, u477, u478, u479, u480, u481, u482, u483, u484, u485, u486, u487, u488, u489, u490, u491, u492, u493, u494, u495, u496, u497, u498, u499, u500, u501, u502, u503, u504, u505, u506, u507, u508, u509, u510, u511, u512, u513, u514, u515, u516, u517, u518, u519, u520, x521, x522, x523, x524, x525, u526, u527, u528, u529, u530, u531, u532, u533, u534, u535, u536, u537, u538, u539, u540, u541, u542, u543, u544, u545, u546, u547, u548, u549, u550, u551, u552, u553, u554, u555, u556, u557, u558, u559, u560, u561, u562, u563, u564, u565, u566, u567, u568, u569, u570, u571, u572, u573, u574, u575, u576, u577, u578, u579, u580, u581, u582, u583, u584, u585, u586, u587, u588, u589, u590, u591, u592, u593, u594, u595, u596, u597, u598, u599, u600, u601, u602, u603, u604, u605, u606, u607, u608, u609, u610, u611, u612, u613], defers := [] } W') :
    Code.wp Ybaz.prog (lawReg 131) Q { tmps := #[u0, u1, u2, u3, u4, u5, u6, u7, u8, u9, u10, u11, u12, u13, u14, u15, u16, u17, u18, u19, u20, u21, u22, u23, u24, u25, u26, u27, u28, u29, u30, u31, u32, u33, u34, u35, u36, u37, u38, u39, u40, u41, u42, u43, u44, u45, u46, u47, u48, u49, u50, .pointer (some ⟨nb, 0, none⟩), u52, u53, .map (some xb), u55, u56, .int .u32 k, u58, u59, u60, u61, .pointer (some ⟨tb, 0, none⟩), u63, u64, u65, u66, u67, u68, u69, u70, u71, u72, u73, u74, u75, u76, u77, u78, u79, u80, u81, u82, u83, u84, u85, u86, u87, u88, u89, u90, u91, u92, u93, u94, u95, u96, u97, u98, u99, u100, u101, u102, u103, u104, u105, u106, u107, u108, u109, u110, u111, u112, u113, u114, u115, u116, u117, u118, u119, u120, u121, u122, u123, u124, u125, u126, u127, u128, u129, u130, u131, u132, u133, u134, u135, u136, u137, u138, u139, u140, u141, u142, u143, u144, u145, u146, u147, u148, u149, u150, u151, u152, u153, u154, u155, u156, u157, u158, u159, u160, u161, u162, u163, u164, u165, u166, u167, u168, u169, u170, u171, u172, u173, u174, u175, u176, u177, u178, u179, u180, u181, u182, u183, u184, u185, u186, u187, u188, u189, u190, u191, u192, u193, u194, u195, u196, u197, u198, u199, u200, u201, u202, u203, u204, u205, u206, u207, u208, u209, u210, u211, u212, u213, u214, u215, u216, u217, u218, u219, u220, u221, u222, u223, u224, u225, u226, u227, u228, u229, u230, u231, u232, u233, u234, u235, u236, u237, u238, u239, u240, u241, u242, u243, u244, u245, u246, u247, u248, u249, u250, u251, u252, u253, u254, u255, u256, u257, u258, u259, u260, u261, u262, u263, u264, u265, u266, u267, u268, u269, u270, u271, u272, u273, u274, u275, u276, u277, u278, u279, u280, u281, u282, u283, u284, u285, u286, u287, u288, u289, u290, u291, u292, u293, u294, u295, u296, u297, u298, u299, u300, u301, u302, u303, u304, u305, u306, u307, u308, u309, u310, u311, u312, u313, u314, u315, u316, u317, u318, u319, u320, u321, u322, u323, u324, u325, u326, u327, u328, u329, u330, u331, u332, u333, u334, u335, u336, u337, u338, u339, u340, u341, u342, u343, u344, u345, u346, u347, u348, u349, u350, u351, u352, u353, u354, u355, u356, u357, u358, u359, u360, u361, u362, u363, u364, u365, u366, u367, u368, u369, u370, u371, u372, u373, u374, u375, u376, u377, u378, u379, u380, u381, u382, u383, u384, u385, u386, u387, u388, u389, u390, u391, u392, u393, u394, u395, u396, u397, u398, u399, u400, u401, u402, u403, u404, u405, u406, u407, u408, u409, u410, u411, u412, u413, u414, u415, u416, u417, u418, u419, u420, u421, u422, u423, u424, u425, u426, u427, u428, u429, u430, u431, u432, u433, u434, u435, u436, u437, u438, u439, u440, u441, u442, u443, u444, u445, u446, u447, u448, u449, u450, u451, u452, u453, u454, u455, u456, u457, u458, u459, u460, u461, u462, u463, u464, u465, u466, u467, u468, u469, u470, u471, u472, u473, u474, u475, u476, u477, u478, u479, u480, u481, u482, u483, u484, u485, u486, u487, u488, u489, u490, u491, u492, u493, u494, u495, u496, u497, u498, u499, u500, u501, u502, u503, u504, u505, u506, u507, u508, u509, u510, u511, u512, u513, u514, u515, u516, u517, u518, u519, u520, u521, u522, u523, u524, u525, u526, u527, u528, u529, u530, u531, u532, u533, u534, u535, u536, u537, u538, u539, u540, u541, u542, u543, u544, u545, u546, u547, u548, u549, u550, u551, u552, u553, u554, u555, u556, u557, u558, u559, u560, u561, u562, u563, u564, u565, u566, u567, u568, u569, u570, u571, u572, u573, u574, u575, u576, u577, u578, u579, u580, u581, u582, u583, u584, u585, u586, u587, u588, u589, u590, u591, u592, u593, u594, u595, u596, u597, u598, u599, u600, u601, u602, u603, u604, u605, u606, u607, u608, u609, u610, u611, u612, u613], defers := [] } Y := by
  have HS : Hid (S7 mb xb nb ge n0 n now f0 g es Y) := hS
  have HK : Hid _ := hK
  obtain ⟨c2, hx2⟩ := HS.out.exp
  obtain ⟨hrun, hmp, hturn⟩ := putW_run hx2 (Nat.lt_of_le_of_lt hn (by decide)) hk (memV ⟨now, t, false⟩)
  have S3 : Hid _ := HS.out.put hturn hmp
  have T3 : Hid _ := (Two.refl xb xb Y).turned hturn
  unfold memV at hrun
  have n0' : Y.cell? ⟨nb, 0, none⟩ = some (.int .u64 now.n) := cell_of HS.out.nw
  have n1' : Y.cell? ⟨nb, 1, none⟩ = some (.int .i64 now.s) := cell_of HS.out.nw
  have n2' : Y.cell? ⟨nb, 2, none⟩ = some (.pointer none) := cell_of HS.out.nw
  have t0' : Y.cell? ⟨tb, 0, none⟩ = some (.int .u64 t.n) := cell_of hT
  have t1' : Y.cell? ⟨tb, 1, none⟩ = some (.int .i64 t.s) := cell_of hT
  have t2' : Y.cell? ⟨tb, 2, none⟩ = some (.pointer none) := cell_of hT
  clear hx2 hmp hturn hS hK hT hk hn
  conv => arg 2; whnf
  go_wp2_with fail
  exact HK.out _ _ _ _ _ _ S3.out T3.out
end Go.Proofs.YbulkdsruGreatDoor
