import Derived.Test.YbulkdsruGreatDoorL7a
import Derived.Test.YbulkdsruGreatDoorLl
namespace Go.Proofs.YbulkdsruGreatDoor
open Go.RowKit Go.Op
set_option linter.unusedVariables false
set_option linter.unusedSimpArgs false
theorem getD_put (a : Act) (d t : Nat) (v : Value) (h : d ≠ t) : (a.put (some d) v).tmps.getD t undef = a.tmps.getD t undef := by
  simp [Act.put, Array.getD_eq_getD_getElem?, Array.getElem?_setIfInBounds, h]
theorem getD_put_same (a : Act) (d : Nat) (v : Value) (h : d < a.tmps.size) : (a.put (some d) v).tmps.getD d undef = v := by
  simp [Act.put, Array.getD_eq_getD_getElem?, Array.getElem?_setIfInBounds, h]
theorem below_set3 {Y w : World} {q i : Nat} (h : Below Y.heap.size Y w) (hq : Y.heap.size ≤ q) (t : Tm) : Below Y.heap.size Y (set3 w q i t) :=
  ⟨h.os, h.tape, h.output, by rw [set3_size]; exact h.size, fun k hk => (set3_other (by omega) t).trans (h.block k hk)⟩
def Cel (t : Tm) : Obj := (.cells #[.int .u64 t.n, .int .i64 t.s, .pointer none] 48)
structure C139 (Y : World) (tp tn : Tm) (ls : Nat → Bool) (a : Act) (w : World) : Prop where
  bel : Below Y.heap.size Y w
  c6 : ls 6 = true → ls 4 = true
  c7 : ls 7 = true → ls 5 = true
  p : ls 4 = true → ∃ q, a.tmps.getD 70 undef = .pointer (some ⟨q, 0, none⟩) ∧ Y.heap.size ≤ q ∧ w.heap[q]? = some (Cel (if ls 6 = true then tp else Tm.zero))
  n : ls 5 = true → ∃ q, a.tmps.getD 71 undef = .pointer (some ⟨q, 0, none⟩) ∧ Y.heap.size ≤ q ∧ w.heap[q]? = some (Cel (if ls 7 = true then tn else Tm.zero))
  ne : ls 4 = true → ls 5 = true → a.tmps.getD 70 undef ≠ a.tmps.getD 71 undef
theorem C139.skip {Y : World} {tp tn : Tm} {ls : Nat → Bool} {a : Act} {w : World} (h : C139 Y tp tn ls a w) (i d : Nat) (v : Value) (h4 : 4 ≠ i) (h5 : 5 ≠ i) (h6 : 6 ≠ i) (h7 : 7 ≠ i) (hd0 : d ≠ 70) (hd1 : d ≠ 71) : C139 Y tp tn (upL ls i) (a.put (some d) v) w := by
  obtain ⟨a1, a2, a3, a4, a5, a6⟩ := h
  refine ⟨a1, ?_, ?_, ?_, ?_, ?_⟩
  · simpa [upL, h4, h6] using a2
  · simpa [upL, h5, h7] using a3
  · simp only [upL, if_neg h4, if_neg h6, getD_put a d 70 v hd0]; exact a4
  · simp only [upL, if_neg h5, if_neg h7, getD_put a d 71 v hd1]; exact a5
  · simp only [upL, if_neg h4, if_neg h5, getD_put a d 70 v hd0, getD_put a d 71 v hd1]; exact a6
theorem C139.alP {Y : World} {tp tn : Tm} {ls : Nat → Bool} {a : Act} {w : World} (h : C139 Y tp tn ls a w) (hi : ls 4 = false) (hz : 70 < a.tmps.size) : C139 Y tp tn (upL ls 4) (a.put (some 70) (.pointer (some ⟨w.heap.size, 0, none⟩))) (w.alloc (.cells #[.int .u64 0, .int .i64 0, .pointer none] 48)) := by
  obtain ⟨a1, a2, a3, a4, a5, a6⟩ := h
  have hb : Below w.heap.size w (w.alloc (.cells #[.int .u64 0, .int .i64 0, .pointer none] 48)) := (Below.refl _ w).alloc (Nat.le_refl _) _
  have l6 : ls 6 = false := by cases h6 : ls 6 with | false => rfl | true => rw [a2 h6] at hi; cases hi
  refine ⟨a1.trans (hb.mono a1.size), ?_, ?_, ?_, ?_, ?_⟩
  · simp [upL]
  · simpa [upL] using a3
  · intro _
    refine ⟨w.heap.size, getD_put_same a 70 _ hz, a1.size, ?_⟩
    have e : (if upL ls 4 6 = true then tp else Tm.zero) = Tm.zero := by simp [upL, l6]
    rw [e]
    exact (MapKept.heap_alloc w _).1
  · intro h5
    have h5' : ls 5 = true := by simpa [upL] using h5
    obtain ⟨q, e1, e2, e3⟩ := a5 h5'
    refine ⟨q, (getD_put a 70 71 _ (by decide)).trans e1, e2, ?_⟩
    have := (hb.block q (Array.getElem?_eq_some_iff.1 e3).1).trans e3
    simpa [upL] using this
  · intro _ h5
    have h5' : ls 5 = true := by simpa [upL] using h5
    obtain ⟨q, e1, e2, e3⟩ := a5 h5'
    rw [getD_put_same a 70 _ hz, getD_put a 70 71 _ (by decide), e1]
    intro e
    injection e with e; injection e with e; injection e with e
    have := (Array.getElem?_eq_some_iff.1 e3).1
    omega
theorem C139.alN {Y : World} {tp tn : Tm} {ls : Nat → Bool} {a : Act} {w : World} (h : C139 Y tp tn ls a w) (hi : ls 5 = false) (hz : 71 < a.tmps.size) : C139 Y tp tn (upL ls 5) (a.put (some 71) (.pointer (some ⟨w.heap.size, 0, none⟩))) (w.alloc (.cells #[.int .u64 0, .int .i64 0, .pointer none] 48)) := by
  obtain ⟨a1, a2, a3, a4, a5, a6⟩ := h
  have hb : Below w.heap.size w (w.alloc (.cells #[.int .u64 0, .int .i64 0, .pointer none] 48)) := (Below.refl _ w).alloc (Nat.le_refl _) _
  have l7 : ls 7 = false := by cases h7 : ls 7 with | false => rfl | true => rw [a3 h7] at hi; cases hi
  refine ⟨a1.trans (hb.mono a1.size), ?_, ?_, ?_, ?_, ?_⟩
  · simpa [upL] using a2
  · simp [upL]
  · intro h4
    have h4' : ls 4 = true := by simpa [upL] using h4
    obtain ⟨q, e1, e2, e3⟩ := a4 h4'
    refine ⟨q, (getD_put a 71 70 _ (by decide)).trans e1, e2, ?_⟩
    have := (hb.block q (Array.getElem?_eq_some_iff.1 e3).1).trans e3
    simpa [upL] using this
  · intro _
    refine ⟨w.heap.size, getD_put_same a 71 _ hz, a1.size, ?_⟩
    have e : (if upL ls 5 7 = true then tn else Tm.zero) = Tm.zero := by simp [upL, l7]
    rw [e]
    exact (MapKept.heap_alloc w _).1
  · intro h4 _
    have h4' : ls 4 = true := by simpa [upL] using h4
    obtain ⟨q, e1, e2, e3⟩ := a4 h4'
    rw [getD_put_same a 71 _ hz, getD_put a 71 70 _ (by decide), e1]
    intro e
    injection e with e; injection e with e; injection e with e
    have := (Array.getElem?_eq_some_iff.1 e3).1
    omega
theorem C139.stP {Y : World} {tp tn : Tm} {ls : Nat → Bool} {a : Act} {w : World} {q : Nat} (h : C139 Y tp tn ls a w) (h4 : ls 4 = true) (hq : a.tmps.getD 70 undef = .pointer (some ⟨q, 0, none⟩)) (hY : Y.heap.size ≤ q) (hc : ∃ t, w.heap[q]? = some (Cel t)) (v : Value) : C139 Y tp tn (upL ls 6) (a.put none v) (set3 w q 0 tp) := by
  obtain ⟨a1, a2, a3, a4, a5, a6⟩ := h
  obtain ⟨t, hc⟩ := hc
  refine ⟨below_set3 a1 hY tp, ?_, ?_, ?_, ?_, ?_⟩
  · intro _; simpa [upL] using h4
  · simpa [upL] using a3
  · intro _
    exact ⟨q, hq, hY, by simp [upL]; exact set3_heap (i := 0) hc tp⟩
  · intro h5
    have h5' : ls 5 = true := by simpa [upL] using h5
    obtain ⟨q1, e1, e2, e3⟩ := a5 h5'
    have hne : q1 ≠ q := by
      rintro rfl
      exact a6 h4 h5' (by rw [hq, e1])
    refine ⟨q1, e1, e2, ?_⟩
    have := (set3_other (i := 0) hne tp).trans e3
    simpa [upL] using this
  · intro _ h5
    exact a6 h4 (by simpa [upL] using h5)
theorem C139.stN {Y : World} {tp tn : Tm} {ls : Nat → Bool} {a : Act} {w : World} {q : Nat} (h : C139 Y tp tn ls a w) (h5 : ls 5 = true) (hq : a.tmps.getD 71 undef = .pointer (some ⟨q, 0, none⟩)) (hY : Y.heap.size ≤ q) (hc : ∃ t, w.heap[q]? = some (Cel t)) (v : Value) : C139 Y tp tn (upL ls 7) (a.put none v) (set3 w q 0 tn) := by
  obtain ⟨a1, a2, a3, a4, a5, a6⟩ := h
  obtain ⟨t, hc⟩ := hc
  refine ⟨below_set3 a1 hY tn, ?_, ?_, ?_, ?_, ?_⟩
  · simpa [upL] using a2
  · intro _; simpa [upL] using h5
  · intro h4
    have h4' : ls 4 = true := by simpa [upL] using h4
    obtain ⟨q1, e1, e2, e3⟩ := a4 h4'
    have hne : q1 ≠ q := by
      rintro rfl
      exact a6 h4' h5 (by rw [hq, e1])
    refine ⟨q1, e1, e2, ?_⟩
    have := (set3_other (i := 0) hne tn).trans e3
    simpa [upL] using this
  · intro _
    exact ⟨q, hq, hY, by simp [upL]; exact set3_heap (i := 0) hc tn⟩
  · intro h4 _
    exact a6 (by simpa [upL] using h4) h5
def psi139 (pm : Int) (tp tn : Tm) : Nat → Value → Prop
  | 559 => fun v => v = tv tp.n tp.s
  | 560 => fun v => v = tv tn.n tn.s
  | 561 => fun v => v = .int .u8 pm
  | 562 => fun v => v = .int .i64 pm
  | 72 => fun v => v = .int .i64 pm
  | _ => fun _ => True
set_option maxRecDepth 100000 in
set_option maxHeartbeats 1000000 in
theorem reg139 (pb nb : Nat) (pm : Int) (tp tn : Tm) (Y : World) (hp : Y.heap[pb]? = some (.cells #[.int .u64 tp.n, .int .i64 tp.s, .pointer none] 48)) (hn : Y.heap[nb]? = some (.cells #[.int .u64 tn.n, .int .i64 tn.s, .pointer none] 48)) (hpm0 : 0 ≤ pm) (hpm1 : pm ≤ 255)
    (Q : Exit → Act → World → Prop) {u0 u1 u2 u4 u5 u6 u7 u8 u9 u10 u11 u12 u13 u14 u15 u16 u17 u18 u19 u20 u21 u22 u23 u24 u25 u26 u27 u28 u29 u30 u31 u32 u33 u34 u35 u36 u37 u38 u39 u40 u41 u42 u43 u44 u45 u46 u47 u48 u51 u52 u53 u54 u55 u56 u57 u58 u59 u60 u61 u62 u63 u64 u65 u66 u67 u68 u69 u70 u71 u72 u73 u74 u75 u76 u77 u78 u79 u80 u81 u82 u83 u84 u85 u86 u87 u88 u89 u90 u91 u92 u93 u94 u95 u96 u97 u98 u99 u100 u101 u102 u103 u104 u105 u106 u107 u108 u109 u110 u111 u112 u113 u114 u115 u116 u117 u118 u119 u120 u121 u122 u123 u124 u125 u126 u127 u128 u129 u130 u131 u132 u133 u134 u135 u136 u137 u138 u139 u140 u141 u142 u143 u144 u145 u146 u147 u148 u149 u150 u151 u152 u153 u154 u155 u156 u157 u158 u159 u160 u161 u162 u163 u164 u165 u166 u167 u168 u169 u170 u171 u172 u173 u174 u175 u176 u177 u178 u179 u180 u181 u182 u183 u184 u185 u186 u187 u188 u189 u190 u191 u192 u193 u194 u195 u196 u197 u198 u199 u200 u201 u202 u203 u204 u205 u206 u207 u208 u209 u210 u211 u212 u213 u214 u215 u216 u217 u218 u219 u220 u221 u222 u223 u224 u225 u226 u227 u228 u229 u230 u231 u232 u233 u234 u235 u236 u237 u238 u239 u240 u241 u242 u243 u244 u245 u246 u247 u248 u249 u250 u251 u252 u253 u254 u255 u256 u257 u258 u259 u260 u261 u262 u263 u264 u265 u266 u267 u268 u269 u270 u271 u272 u273 u274 u275 u276 u277 u278 u279 u280 u281 u282 u283 u284 u285 u286 u287 u288 u289 u290 u291 u292 u293 u294 u295 u296 u297 u298 u299 u300 u301 u302 u303 u304 u305 u306 u307 u308 u309 u310 u311 u312 u313 u314 u315 u316 u317 u318 u319 u320 u321 u322 u323 u324 u325 u326 u327 u328 u329 u330 u331 u332 u333 u334 u335 u336 u337 u338 u339 u340 u341 u342 u343 u344 u345 u346 u347 u348 u349 u350 u351 u352 u353 u354 u355 u356 u357 u358 u359 u360 u361 u362 u363 u364 u365 u366 u367 u368 u369 u370 u371 u372 u373 u374 u375 u376 u377 u378 u379 u380 u381 u382 u383 u384 u385 u386 u387 u388 u389 u390 u391 u392 u393 u394 u395 u396 u397 u398 u399 u400 u401 u402 u403 u404 u405 u406 u407 u408 u409 u410 u411 u412 u413 u414 u415 u416 u417 u418 u419 u420 u421 u422 u423 u424 u425 u426 u427 u428 u429 u430 u431 u432 u433 u434 u435 u436 u437 u438 u439 u440 u441 u442 u443 u444 u445 u446 u447 u448 u449 u450 u451 u452 u453 u454 u455 u456 u457 u458 u459 u460 u461 u462 u463 u464 u465 u466 u467 u468 u469 u470 u471 u472 u473 u474 u475 u476 u477 u478 u479 u480 u481 u482 u483 u484 u485 u486 u487 u488 u489 u490 u491 u492 u493 u494 u495 u496 u497 u498 u499 u500 u501 u502 u503 u504 u505 u506 u507 u508 u509 u510 u511 u512 u513 u514 u515 u516 u517 u518 u519 u520 u521 u522 u523 u524 u525 u526 u527 u528 u529 u530 u531 u532 u533 u534 u535 u536 u537 u538 u539 u540 u541 u542 u543 u544 u545 u546 u547 u548 u549 u550 u551 u552 u553 u554 u555 u556 u557 u558 u559 u560 u561 u562 u563 u564 u565 u566 u567 u568 u569 u570 u571 u572 u573 u574 u575 u576 u577 u578 u579 u580 u581 u582 u583 u584 u585 u586 u587 u588 u589 u590 u591 u592 u593 u594 u595 u596 u597 u598 u599 u600 u601 u602 u603 u604 u605 u606 u607 u608 u609 u610 u611 u612 u613 : Value}
    (hK : ∀ (q0 q1 : Nat) (x559 x560 x561 x562 : Value) (W' : World), Below Y.heap.size Y W' → q0 ≠ q1 → Y.heap.size ≤ q0 → Y.heap.size ≤ q1 → W'.heap[q0]? = some (.cells #[.int .u64 tp.n, .int .i64 tp.s, .pointer none] 48) → W'.heap[q1]? = some (.cells #[.int .u64 tn.n, .int .i64 tn.s, .pointer none] 48) → Q .normal { tmps := #[u0, u1, u2, .int .u8 pm, u4, u5, u6, u7, u8, u9, u10, u11, u12, u13, u14, u15, u16, u17, u18, u19, u20, u21, u22, u23, u24, u25, u26, u27, u28, u29, u30, u31, u32, u33, u34, u35, u36, u37, u38, u39, u40, u41, u42, u43, u44, u45, u46, u47, u48, .pointer (some ⟨pb, 0, none⟩), .pointer (some ⟨nb, 0, none⟩), u51, u52, u53, u54, u55, u56, u57, u58, u59, u60, u61, u62, u63, u64, u65, u66, u67, u68, u69, .pointer (some ⟨q0, 0, none⟩), .pointer (some ⟨q1, 0, none⟩), .int .i64 pm, u73, u74, u75, u76, u77, u78, u79, u80, u81, u82, u83, u84, u85, u86, u87, u88, u89, u90, u91, u92, u93, u94, u95, u96, u97, u98, u99, u100, u101, u102, u103, u104, u105, u106, u107, u108, u109, u110, u111, u112, u113, u114, u115, u116, u117, u118, u119, u120, u121, u122, u123, u124, u125, u126, u127, u128, u129, u130, u131, u132, u133, u134, u135, u136, u137, u138, u139, u140, u141, u142, u143, u144, u145, u146, u147, u148, u149, u150, u151, u152, u153, u154, u155, u156, u157, u158, u159, u160, u161, u162, u163, u164, u165, u166, u167, u168, u169, u170, u171, u172, u173, u174, u175, u176, u177, u178, u179, u180, u181, u182, u183, u184, u185, u186, u187, u188, u189, u190, u191, u192, u193, u194, u195, u196, u197, u198, u199, u200, u201, u202, u203, u204, u205, u206, u207, u208, u209, u210, u211, u212, u213, u214, u215, u216, u217, u218, u219, u220, u221, u222, u223, u224, u225, u226, u227, u228, u229, u230, u231, u232, u233, u234, u235, u236, u237, u238, u239, u240, u241, u242, u243, u244, u245, u246, u247, u248, u249, u250, u251, u252, u253, u254, u255, u256, u257, u258, u259, u260, u261, u262, u263, u264, u265, u266, u267, u268, u269, u270, u271, u272, u273, u274, u275, u276, u277, u278, u279, u280, u281, u282, u283, u284, u285, u286, u287, u288, u289, u290, u291, u292, u293, u294, u295, u296, u297, u298, u299, u300, u301, u302, u303, u304, u305, u306, u307, u308, u309, u310, u311, u312, u313, u314, u315, u316, u317, u318, u319, u320, u321, u322, u323, u324, u325, u326, u327, u328, u329, u330, u331, u332, u333, u334, u335, u336, u337, u338, u339, u340, u341, u342, u343, u344, u345, u346, u347, u348, u349, u350, u351, u352, u353, u354, u355, u356, u357, u358, u359, u360, u361, u362, u363, u364, u365, u366, u367, u368, u369, u370, u371, u372, u373, u374, u375, u376, u377, u378, u379, u380, u381, u382, u383, u384, u385, u386, u387, u388, u389, u390, u391, u392, u393, u394, u395, u396, u397, u398, u399, u400, u401, u402, u403, u404, u405, u406, u407, u408, u409, u410, u411, u412, u413, u414, u415, u416, u417, u418, u419, u420, u421, u422, u423, u424, u425, u426, u427, u428, u429, u430, u431, u432, u433, u434, u435, u436, u437, u438, u439, u440, u441, u442, u443, u444, u445, u446, u447, u448, u449, u450, u451, u452, u453, u454, u455, u456, u457, u458, u459, u460, u461, u462, u463, u464, u465, u466, u467, u468, u469, u470, u471, u472, u473, u474, u475, u476, u477, u478, u479, u480, u481, u482, u483, u484, u485, u486, u487, u488, u489, u490, u491, u492, u493, u494, u495, u496, u497, u498, u499, u500, u501, u502, u503, u504, u505, u506, u507, u508, u509, u510, u511, u512, u513, u514, u515, u516, u517, u518, u519, u520, u521, u522, u523, u524, u525, u526, u527, u528, u529, u530, u531, u532, u533, u534, u535, u536, u537, u538, u539, u540, u541, u542, u543, u544, u545, u546, u547, u548, u549, u550, u551, u552, u553, u554, u555, u556, u557, u558, x559, x560, x561, x562, u563, u564, u565, u566, u567, u568, u569, u570, u571, u572, u573, u574, u575, u576, u577, u578, u579, u580, u581, u582, u583, u584, u585, u586, u587, u588, u589, u590, u591, u592, u593, u594, u595, u596, u597, u598, u599, u600, u601, u602, u603, u604, u605, u606, u607, u608, u609, u610, u611, u612, u613], defers := [] } W') :
    Code.wp Ybaz.prog (lawReg 139) Q { tmps := #[u0, u1, u2, .int .u8 pm, u4, u5, u6, u7, u8, u9, u10, u11, u12, u13, u14, u15, u16, u17, u18, u19, u20, u21, u22, u23, u24, u25, u26, u27, u28, u29, u30, u31, u32, u33, u34, u35, u36, u37, u38, u39, u40, u41, u42, u43, u44, u45, u46, u47, u48, .pointer (some ⟨pb, 0, none⟩), .pointer (some ⟨nb, 0, none⟩), u51, u52, u53, u54, u55, u56, u57, u58, u59, u60, u61, u62, u63, u64, u65, u66, u67, u68, u69, u70, u71, u72, u73, u74, u75, u76, u77, u78, u79, u80, u81, u82, u83, u84, u85, u86, u87, u88, u89, u90, u91, u92, u93, u94, u95, u96, u97, u98, u99, u100, u101, u102, u103, u104, u105, u106, u107, u108, u109, u110, u111, u112, u113, u114, u115, u116, u117, u118, u119, u120, u121, u122, u123, u124, u125, u126, u127, u128, u129, u130, u131, u132, u133, u134, u135, u136, u137, u138, u139, u140, u141, u142, u143, u144, u145, u146, u147, u148, u149, u150, u151, u152, u153, u154, u155, u156, u157, u158, u159, u160, u161, u162, u163, u164, u165, u166, u167, u168, u169, u170, u171, u172, u173, u174, u175, u176, u177, u178, u179, u180, u181, u182, u183, u184, u185, u186, u187, u188, u189, u190, u191, u192, u193, u194, u195, u196, u197, u198, u199, u200, u201, u202, u203, u204, u205, u206, u207, u208, u209, u210, u211, u212, u213, u214, u215, u216, u217, u218, u219, u220, u221, u222, u223, u224, u225, u226, u227, u228, u229, u230, u231, u232, u233, u234, u235, u236, u237, u238, u239, u240, u241, u242, u243, u244, u245, u246, u247, u248, u249, u250, u251, u252, u253, u254, u255, u256, u257, u258, u259, u260, u261, u262, u263, u264, u265, u266, u267, u268, u269, u270, u271, u272, u273, u274, u275, u276, u277, u278, u279, u280, u281, u282, u283, u284, u285, u286, u287, u288, u289, u290, u291, u292, u293, u294, u295, u296, u297, u298, u299, u300, u301, u302, u303, u304, u305, u306, u307, u308, u309, u310, u311, u312, u313, u314, u315, u316, u317, u318, u319, u320, u321, u322, u323, u324, u325, u326, u327, u328, u329, u330, u331, u332, u333, u334, u335, u336, u337, u338, u339, u340, u341, u342, u343, u344, u345, u346, u347, u348, u349, u350, u351, u352, u353, u354, u355, u356, u357, u358, u359, u360, u361, u362, u363, u364, u365, u366, u367, u368, u369, u370, u371, u372, u373, u374, u375, u376, u377, u378, u379, u380, u381, u382, u383, u384, u385, u386, u387, u388, u389, u390, u391, u392, u393, u394, u395, u396, u397, u398, u399, u400, u401, u402, u403, u404, u405, u406, u407, u408, u409, u410, u411, u412, u413, u414, u415, u416, u417, u418, u419, u420, u421, u422, u423, u424, u425, u426, u427, u428, u429, u430, u431, u432, u433, u434, u435, u436, u437, u438, u439, u440, u441, u442, u443, u444, u445, u446, u447, u448, u449, u450, u451, u452, u453, u454, u455, u456, u457, u458, u459, u460, u461, u462, u463, u464, u465, u466, u467, u468, u469, u470, u471, u472, u473, u474, u475, u476, u477, u478, u479, u480, u481, u482, u483, u484, u485, u486, u487, u488, u489, u490, u491, u492, u493, u494, u495, u496, u497, u498, u499, u500, u501, u502, u503, u504, u505, u506, u507, u508, u509, u510, u511, u512, u513, u514, u515, u516, u517, u518, u519, u520, u521, u522, u523, u524, u525, u526, u527, u528, u529, u530, u531, u532, u533, u534, u535, u536, u537, u538, u539, u540, u541, u542, u543, u544, u545, u546, u547, u548, u549, u550, u551, u552, u553, u554, u555, u556, u557, u558, u559, u560, u561, u562, u563, u564, u565, u566, u567, u568, u569, u570, u571, u572, u573, u574, u575, u576, u577, u578, u579, u580, u581, u582, u583, u584, u585, u586, u587, u588, u589, u590, u591, u592, u593, u594, u595, u596, u597, u598, u599, u600, u601, u602, u603, u604, u605, u606, u607, u608, u609, u610, u611, u612, u613], defers := [] } Y := by
  have HK : Hid _ := hK
  have HP : Hid (Y.heap[pb]? = some (.cells #[.int .u64 tp.n, .int .i64 tp.s, .pointer none] 48)) := hp
  have HN : Hid (Y.heap[nb]? = some (.cells #[.int .u64 tn.n, .int .i64 tn.s, .pointer none] 48)) := hn
  have g0 : pb < Y.heap.size := (Array.getElem?_eq_some_iff.1 hp).1
  have g1 : nb < Y.heap.size := (Array.getElem?_eq_some_iff.1 hn).1
  have E1 : IntKind.i64.wrap pm = pm := by simp [IntKind.wrap, IntKind.bits, IntKind.signed]; omega
  clear hK hp hn
  conv => arg 2; whnf
  refine wp_region_ls (C139 Y tp tn) (psi139 pm tp tn) [] [559, 560, 561, 562, 70, 71, 72] mixed ?h0 (by kernel_rfl) (fun _ h => by cases h) (by kernel_rfl) (by kernel_rfl) (by kernel_rfl) ?each ?fin
  case h0 =>
    intro ls h
    exact ⟨(Below.refl _ _).drew, fun e => (by rw [h] at e; cases e), fun e => (by rw [h] at e; cases e), fun e => (by rw [h] at e; cases e), fun e => (by rw [h] at e; cases e), fun e => (by rw [h] at e; cases e)⟩
  case each =>
    simp only [List.zipIdx_cons, List.zipIdx_nil, List.forall_mem_cons, Nat.zero_add, Nat.reduceAdd]
    refine ⟨?_, ?_, ?_, ?_, ?_, ?_, ?_, ?_, ?_, fun _ h => by cases h⟩
    · intro ls a w1 hi hl hC hz hs hn
      have h0' : a.tmps.getD 49 undef = .pointer (some ⟨pb, 0, none⟩) := hs 49 (by kernel_rfl)
      have HC : Hid _ := hC
      have hc0 : w1.cell? ⟨pb, 0, none⟩ = some (.int .u64 tp.n) := cell_of ((hC.bel.block pb g0).trans HP.out)
      have hc1 : w1.cell? ⟨pb, 1, none⟩ = some (.int .i64 tp.s) := cell_of ((hC.bel.block pb g0).trans HP.out)
      have hc2 : w1.cell? ⟨pb, 2, none⟩ = some (.pointer none) := cell_of ((hC.bel.block pb g0).trans HP.out)
      clear hs hn hC hl hz
      unfold Oper.wp
      simp only [execOp, Act.eval, h0']
      go_simp
      exact ⟨_, rfl, rfl, HC.out.skip 0 559 _ (by decide) (by decide) (by decide) (by decide) (by decide) (by decide)⟩
    · intro ls a w1 hi hl hC hz hs hn
      have h0' : a.tmps.getD 50 undef = .pointer (some ⟨nb, 0, none⟩) := hs 50 (by kernel_rfl)
      have HC : Hid _ := hC
      have hc0 : w1.cell? ⟨nb, 0, none⟩ = some (.int .u64 tn.n) := cell_of ((hC.bel.block nb g1).trans HN.out)
      have hc1 : w1.cell? ⟨nb, 1, none⟩ = some (.int .i64 tn.s) := cell_of ((hC.bel.block nb g1).trans HN.out)
      have hc2 : w1.cell? ⟨nb, 2, none⟩ = some (.pointer none) := cell_of ((hC.bel.block nb g1).trans HN.out)
      clear hs hn hC hl hz
      unfold Oper.wp
      simp only [execOp, Act.eval, h0']
      go_simp
      exact ⟨_, rfl, rfl, HC.out.skip 1 560 _ (by decide) (by decide) (by decide) (by decide) (by decide) (by decide)⟩
    · intro ls a w1 hi hl hC hz hs hn
      have h0' : a.tmps.getD 3 undef = .int .u8 pm := hs 3 (by kernel_rfl)
      have HC : Hid _ := hC
      clear hs hn hC hl hz
      unfold Oper.wp
      simp only [execOp, Act.eval, h0']
      exact ⟨_, rfl, fun t ht => by cases ht; rfl, HC.out.skip 2 561 _ (by decide) (by decide) (by decide) (by decide) (by decide) (by decide)⟩
    · intro ls a w1 hi hl hC hz hs hn
      have h0' : a.tmps.getD 561 undef = .int .u8 pm := hn 561 (by kernel_rfl)
      have HC : Hid _ := hC
      clear hs hn hC hl hz
      unfold Oper.wp
      simp only [execOp, Act.eval, h0']
      go_simp
      exact ⟨_, rfl, rfl, HC.out.skip 3 562 _ (by decide) (by decide) (by decide) (by decide) (by decide) (by decide)⟩
    · intro ls a w1 hi hl hC hz hs hn
      have HC : Hid _ := hC
      have hz2 : 70 < a.tmps.size := hz 70 rfl
      have HI : Hid _ := hi
      clear hi
      clear hs hn hC hl hz
      unfold Oper.wp
      simp only [execOp, Act.eval]
      go_simp
      exact ⟨_, rfl, trivial, HC.out.alP HI.out hz2⟩
    · intro ls a w1 hi hl hC hz hs hn
      have HC : Hid _ := hC
      have hz2 : 71 < a.tmps.size := hz 71 rfl
      have HI : Hid _ := hi
      clear hi
      clear hs hn hC hl hz
      unfold Oper.wp
      simp only [execOp, Act.eval]
      go_simp
      exact ⟨_, rfl, trivial, HC.out.alN HI.out hz2⟩
    · intro ls a w1 hi hl hC hz hs hn
      have h1' : a.tmps.getD 559 undef = tv tp.n tp.s := hn 559 (by kernel_rfl)
      have l4 : ls 4 = true := hl 4 (by kernel_rfl)
      obtain ⟨q, h0', hY, hc⟩ := hC.p l4
      have t0' := cell_of (i := 0) hc
      have t1' := cell_of (i := 1) hc
      have t2' := cell_of (i := 2) hc
      have f0' : w1.frozen? ⟨q, 0, none⟩ = false := frozen_of hc
      have f1' : w1.frozen? ⟨q, 1, none⟩ = false := frozen_of hc
      have f2' : w1.frozen? ⟨q, 2, none⟩ = false := frozen_of hc
      have HR : Hid _ := hC.stP l4 h0' hY ⟨_, hc⟩
      clear hs hn hC hl hc hY hz
      unfold Oper.wp
      unfold tv at h1'
      simp only [execOp, Act.eval, h0', h1']
      go_simp
      exact HR.out (.bool true)
    · intro ls a w1 hi hl hC hz hs hn
      have h1' : a.tmps.getD 560 undef = tv tn.n tn.s := hn 560 (by kernel_rfl)
      have l4 : ls 5 = true := hl 5 (by kernel_rfl)
      obtain ⟨q, h0', hY, hc⟩ := hC.n l4
      have t0' := cell_of (i := 0) hc
      have t1' := cell_of (i := 1) hc
      have t2' := cell_of (i := 2) hc
      have f0' : w1.frozen? ⟨q, 0, none⟩ = false := frozen_of hc
      have f1' : w1.frozen? ⟨q, 1, none⟩ = false := frozen_of hc
      have f2' : w1.frozen? ⟨q, 2, none⟩ = false := frozen_of hc
      have HR : Hid _ := hC.stN l4 h0' hY ⟨_, hc⟩
      clear hs hn hC hl hc hY hz
      unfold Oper.wp
      unfold tv at h1'
      simp only [execOp, Act.eval, h0', h1']
      go_simp
      exact HR.out (.bool true)
    · intro ls a w1 hi hl hC hz hs hn
      have h0' : a.tmps.getD 562 undef = .int .i64 pm := hn 562 (by kernel_rfl)
      have HC : Hid _ := hC
      clear hs hn hC hl hz
      unfold Oper.wp
      simp only [execOp, Act.eval, h0']
      exact ⟨_, rfl, fun t ht => by cases ht; rfl, HC.out.skip 8 72 _ (by decide) (by decide) (by decide) (by decide) (by decide) (by decide)⟩
  case fin =>
    intro f ls a1 w1 hls hC hf hp
    have l4 := hls 4 (by simp)
    have l5 := hls 5 (by simp)
    have l6 := hls 6 (by simp)
    have l7 := hls 7 (by simp)
    obtain ⟨q0, e0, y0, b0⟩ := hC.p l4
    obtain ⟨q1, e1, y1, b1⟩ := hC.n l5
    have hne := hC.ne l4 l5
    rw [e0, e1] at hne
    rw [if_pos l6] at b0
    rw [if_pos l7] at b1
    have e2 : f 72 = .int .i64 pm := hp 72 (by kernel_rfl)
    have f0 : f 70 = .pointer (some ⟨q0, 0, none⟩) := (hf 70).symm.trans e0
    have f1 : f 71 = .pointer (some ⟨q1, 0, none⟩) := (hf 71).symm.trans e1
    have hbl := hC.bel
    clear hC hp e0 e1 hf
    simp only [List.foldl_cons, List.foldl_nil, List.setIfInBounds_toArray, List.set_cons_succ, List.set_cons_zero, e2, f0, f1]
    exact HK.out q0 q1 _ _ _ _ w1 hbl (fun e => hne (by rw [e])) y0 y1 b0 b1
end Go.Proofs.YbulkdsruGreatDoor
