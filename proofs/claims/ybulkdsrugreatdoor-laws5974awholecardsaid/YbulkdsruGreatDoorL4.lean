import Derived.Test.YbulkdsruGreatDoorLk
namespace Go.Proofs.YbulkdsruGreatDoor
open Go.RowKit Go.Op
set_option linter.unusedVariables false
set_option linter.unusedSimpArgs false
def addK (ks : List Int) (s : Int) : List Int := if s ∈ ks then ks else ks ++ [s]
noncomputable def psi61 (mb pb : Nat) (x : IM) : Nat → Value → Prop
  | 227 => fun v => v = .map (some mb)
  | 228 => fun v => v = .pointer (some ⟨pb, 0, none⟩)
  | 229 => fun v => v = .int .u32 x.s
  | 230 => fun v => v = .pointer (some ⟨pb, 1, none⟩)
  | 231 => fun v => v = .int .i64 x.h
  | 232 => fun v => v = tv (atT x.h).n (atT x.h).s
  | 233 => fun v => v = .pointer (some ⟨pb, 2, none⟩)
  | 234 => fun v => v = .int .i64 x.t
  | 235 => fun v => v = tv (atT x.t).n (atT x.t).s
  | 236 => fun v => v = .pointer (some ⟨pb, 3, none⟩)
  | 237 => fun v => v = .bool x.b
  | 238 => fun v => v = .agg #[.int .u64 (atT x.h).n, .int .i64 (atT x.h).s, .pointer none, .int .u64 (atT x.t).n, .int .i64 (atT x.t).s, .pointer none, .bool x.b]
  | _ => fun _ => True

set_option maxRecDepth 100000 in
set_option maxHeartbeats 4000000 in
theorem body4 (w0 : World) (g o L ci j mb sb n : Nat) (x : IM) (f : Ms) (ks : List Int) (vk : Value) (wr : World) (hjL : j < L) (c0 : wr.cell? ⟨g, o + j * 4, none⟩ = some (.int .u32 x.s)) (c1 : wr.cell? ⟨g, o + j * 4 + 1, none⟩ = some (.int .i64 x.h)) (c2 : wr.cell? ⟨g, o + j * 4 + 2, none⟩ = some (.int .i64 x.t)) (c3 : wr.cell? ⟨g, o + j * 4 + 3, none⟩ = some (.bool x.b))
    (hg : g < wr.heap.size) (hxs : u32ok x.s) (hxh : i64ok x.h) (hxt : i64ok x.t) (hB : Kys w0 mb sb f ks vk n wr) (hn : n ≤ 100000) (hkl : ks.length ≤ 100000) (hms : mb ≠ sb) (hmb : mb < w0.heap.size) (hsb : sb < w0.heap.size)
    (K : Act → World → Prop) (Q : Exit → Act → World → Prop) {u0 u1 u2 u3 u4 u5 u6 u7 u8 u9 u10 u11 u12 u13 u14 u15 u16 u17 u18 u19 u20 u21 u22 u23 u24 u25 u26 u27 u28 u29 u30 u31 u32 u33 u34 u35 u36 u40 u41 u42 u43 u44 u45 u46 u47 u48 u49 u50 u51 u52 u53 u54 u55 u56 u57 u58 u59 u60 u61 u62 u63 u64 u65 u66 u67 u68 u69 u70 u71 u72 u73 u74 u75 u76 u77 u78 u79 u80 u81 u82 u83 u84 u85 u86 u87 u88 u89 u90 u91 u92 u93 u94 u95 u96 u97 u98 u99 u100 u101 u102 u103 u104 u105 u106 u107 u108 u109 u110 u111 u112 u113 u114 u115 u116 u117 u118 u119 u120 u121 u122 u123 u124 u125 u126 u127 u128 u129 u130 u131 u132 u133 u134 u135 u136 u137 u138 u139 u140 u141 u142 u143 u144 u145 u146 u147 u148 u149 u150 u151 u152 u153 u154 u155 u156 u157 u158 u159 u160 u161 u162 u163 u164 u165 u166 u167 u168 u169 u170 u171 u172 u173 u174 u175 u176 u177 u178 u179 u180 u181 u182 u183 u184 u185 u186 u187 u188 u189 u190 u191 u192 u193 u194 u195 u196 u197 u198 u199 u200 u201 u202 u203 u204 u205 u206 u207 u208 u209 u210 u211 u212 u213 u214 u215 u216 u217 u218 u219 u220 u222 u224 u225 u226 u227 u228 u229 u230 u231 u232 u233 u234 u235 u236 u237 u238 u239 u240 u241 u242 u243 u244 u245 u246 u247 u248 u249 u250 u251 u252 u253 u254 u255 u256 u257 u258 u259 u260 u261 u262 u263 u264 u265 u266 u267 u268 u269 u270 u271 u272 u273 u274 u275 u276 u277 u278 u279 u280 u281 u282 u283 u284 u285 u286 u287 u288 u289 u290 u291 u292 u293 u294 u295 u296 u297 u298 u299 u300 u301 u302 u303 u304 u305 u306 u307 u308 u309 u310 u311 u312 u313 u314 u315 u316 u317 u318 u319 u320 u321 u322 u323 u324 u325 u326 u327 u328 u329 u330 u331 u332 u333 u334 u335 u336 u337 u338 u339 u340 u341 u342 u343 u344 u345 u346 u347 u348 u349 u350 u351 u352 u353 u354 u355 u356 u357 u358 u359 u360 u361 u362 u363 u364 u365 u366 u367 u368 u369 u370 u371 u372 u373 u374 u375 u376 u377 u378 u379 u380 u381 u382 u383 u384 u385 u386 u387 u388 u389 u390 u391 u392 u393 u394 u395 u396 u397 u398 u399 u400 u401 u402 u403 u404 u405 u406 u407 u408 u409 u410 u411 u412 u413 u414 u415 u416 u417 u418 u419 u420 u421 u422 u423 u424 u425 u426 u427 u428 u429 u430 u431 u432 u433 u434 u435 u436 u437 u438 u439 u440 u441 u442 u443 u444 u445 u446 u447 u448 u449 u450 u451 u452 u453 u454 u455 u456 u457 u458 u459 u460 u461 u462 u463 u464 u465 u466 u467 u468 u469 u470 u471 u472 u473 u474 u475 u476 u477 u478 u479 u480 u481 u482 u483 u484 u485 u486 u487 u488 u489 u490 u491 u492 u493 u494 u495 u496 u497 u498 u499 u500 u501 u502 u503 u504 u505 u506 u507 u508 u509 u510 u511 u512 u513 u514 u515 u516 u517 u518 u519 u520 u521 u522 u523 u524 u525 u526 u527 u528 u529 u530 u531 u532 u533 u534 u535 u536 u537 u538 u539 u540 u541 u542 u543 u544 u545 u546 u547 u548 u549 u550 u551 u552 u553 u554 u555 u556 u557 u558 u559 u560 u561 u562 u563 u564 u565 u566 u567 u568 u569 u570 u571 u572 u573 u574 u575 u576 u577 u578 u579 u580 u581 u582 u583 u584 u585 u586 u587 u588 u589 u590 u591 u592 u593 u594 u595 u596 u597 u598 u599 u600 u601 u602 u603 u604 u605 u606 u607 u608 u609 u610 u611 u612 u613 : Value}
    (hK : ∀ (vk' : Value) (x41 x225 x226 x227 x228 x229 x230 x231 x232 x233 x234 x235 x236 x237 x238 x239 x240 x241 x242 x243 x244 x245 x246 x247 x248 x249 x250 x251 : Value) (W' : World), Kys w0 mb sb (upd f x.s (some ⟨atT x.h, atT x.t, x.b⟩)) (addK ks x.s) vk' (n + 2) W' → K { tmps := #[u0, u1, u2, u3, u4, u5, u6, u7, u8, u9, u10, u11, u12, u13, u14, u15, u16, u17, u18, u19, u20, u21, u22, u23, u24, u25, u26, u27, u28, u29, u30, u31, u32, u33, u34, u35, u36, .map (some mb), .map (some sb), vk', u40, x41, u42, u43, u44, u45, u46, u47, u48, u49, u50, u51, u52, u53, u54, u55, u56, u57, u58, u59, u60, u61, u62, u63, u64, u65, u66, u67, u68, u69, u70, u71, u72, u73, u74, u75, u76, u77, u78, u79, u80, u81, u82, u83, u84, u85, u86, u87, u88, u89, u90, u91, u92, u93, u94, u95, u96, u97, u98, u99, u100, u101, u102, u103, u104, u105, u106, u107, u108, u109, u110, u111, u112, u113, u114, u115, u116, u117, u118, u119, u120, u121, u122, u123, u124, u125, u126, u127, u128, u129, u130, u131, u132, u133, u134, u135, u136, u137, u138, u139, u140, u141, u142, u143, u144, u145, u146, u147, u148, u149, u150, u151, u152, u153, u154, u155, u156, u157, u158, u159, u160, u161, u162, u163, u164, u165, u166, u167, u168, u169, u170, u171, u172, u173, u174, u175, u176, u177, u178, u179, u180, u181, u182, u183, u184, u185, u186, u187, u188, u189, u190, u191, u192, u193, u194, u195, u196, u197, u198, u199, u200, u201, u202, u203, u204, u205, u206, u207, u208, u209, u210, u211, u212, u213, u214, u215, u216, u217, u218, u219, u220, .slice (some ⟨g, o, none⟩) L ci, u222, .int .i64 j, u224, x225, x226, x227, x228, x229, x230, x231, x232, x233, x234, x235, x236, x237, x238, x239, x240, x241, x242, x243, x244, x245, x246, x247, x248, x249, x250, x251, u252, u253, u254, u255, u256, u257, u258, u259, u260, u261, u262, u263, u264, u265, u266, u267, u268, u269, u270, u271, u272, u273, u274, u275, u276, u277, u278, u279, u280, u281, u282, u283, u284, u285, u286, u287, u288, u289, u290, u291, u292, u293, u294, u295, u296, u297, u298, u299, u300, u301, u302, u303, u304, u305, u306, u307, u308, u309, u310, u311, u312, u313, u314, u315, u316, u317, u318, u319, u320, u321, u322, u323, u324, u325, u326, u327, u328, u329, u330, u331, u332, u333, u334, u335, u336, u337, u338, u339, u340, u341, u342, u343, u344, u345, u346, u347, u348, u349, u350, u351, u352, u353, u354, u355, u356, u357, u358, u359, u360, u361, u362, u363, u364, u365, u366, u367, u368, u369, u370, u371, u372, u373, u374, u375, u376, u377, u378, u379, u380, u381, u382, u383, u384, u385, u386, u387, u388, u389, u390, u391, u392, u393, u394, u395, u396, u397, u398, u399, u400, u401, u402, u403, u404, u405, u406, u407, u408, u409, u410, u411, u412, u413, u414, u415, u416, u417, u418, u419, u420, u421, u422, u423, u424, u425, u426, u427, u428, u429, u430, u431, u432, u433, u434, u435, u436, u437, u438, u439, u440, u441, u442, u443, u444, u445, u446, u447, u448, u449, u450, u451, u452, u453, u454, u455, u456, u457, u458, u459, u460, u461, u462, u463, u464, u465, u466, u467, u468, u469, u470, u471, u472, u473, u474, u475, u476, u477, u478, u479, u480, u481, u482, u483, u484, u485, u486, u487, u488, u489, u490, u491, u492, u493, u494, u495, u496, u497, u498, u499, u500, u501, u502, u503, u504, u505, u506, u507, u508, u509, u510, u511, u512, u513, u514, u515, u516, u517, u518, u519, u520, u521, u522, u523, u524, u525, u526, u527, u528, u529, u530, u531, u532, u533, u534, u535, u536, u537, u538, u539, u540, u541, u542, u543, u544, u545, u546, u547, u548, u549, u550, u551, u552, u553, u554, u555, u556, u557, u558, u559, u560, u561, u562, u563, u564, u565, u566, u567, u568, u569, u570, u571, u572, u573, u574, u575, u576, u577, u578, u579, u580, u581, u582, u583, u584, u585, u586, u587, u588, u589, u590, u591, u592, u593, u594, u595, u596, u597, u598, u599, u600, u601, u602, u603, u604, u605, u606, u607, u608, u609, u610, u611, u612, u613], defers := [] } W') :
    Code.wp Ybaz.prog (lawBlk 8) (Exit.then K Q) { tmps := #[u0, u1, u2, u3, u4, u5, u6, u7, u8, u9, u10, u11, u12, u13, u14, u15, u16, u17, u18, u19, u20, u21, u22, u23, u24, u25, u26, u27, u28, u29, u30, u31, u32, u33, u34, u35, u36, .map (some mb), .map (some sb), vk, u40, u41, u42, u43, u44, u45, u46, u47, u48, u49, u50, u51, u52, u53, u54, u55, u56, u57, u58, u59, u60, u61, u62, u63, u64, u65, u66, u67, u68, u69, u70, u71, u72, u73, u74, u75, u76, u77, u78, u79, u80, u81, u82, u83, u84, u85, u86, u87, u88, u89, u90, u91, u92, u93, u94, u95, u96, u97, u98, u99, u100, u101, u102, u103, u104, u105, u106, u107, u108, u109, u110, u111, u112, u113, u114, u115, u116, u117, u118, u119, u120, u121, u122, u123, u124, u125, u126, u127, u128, u129, u130, u131, u132, u133, u134, u135, u136, u137, u138, u139, u140, u141, u142, u143, u144, u145, u146, u147, u148, u149, u150, u151, u152, u153, u154, u155, u156, u157, u158, u159, u160, u161, u162, u163, u164, u165, u166, u167, u168, u169, u170, u171, u172, u173, u174, u175, u176, u177, u178, u179, u180, u181, u182, u183, u184, u185, u186, u187, u188, u189, u190, u191, u192, u193, u194, u195, u196, u197, u198, u199, u200, u201, u202, u203, u204, u205, u206, u207, u208, u209, u210, u211, u212, u213, u214, u215, u216, u217, u218, u219, u220, .slice (some ⟨g, o, none⟩) L ci, u222, .int .i64 j, u224, u225, u226, u227, u228, u229, u230, u231, u232, u233, u234, u235, u236, u237, u238, u239, u240, u241, u242, u243, u244, u245, u246, u247, u248, u249, u250, u251, u252, u253, u254, u255, u256, u257, u258, u259, u260, u261, u262, u263, u264, u265, u266, u267, u268, u269, u270, u271, u272, u273, u274, u275, u276, u277, u278, u279, u280, u281, u282, u283, u284, u285, u286, u287, u288, u289, u290, u291, u292, u293, u294, u295, u296, u297, u298, u299, u300, u301, u302, u303, u304, u305, u306, u307, u308, u309, u310, u311, u312, u313, u314, u315, u316, u317, u318, u319, u320, u321, u322, u323, u324, u325, u326, u327, u328, u329, u330, u331, u332, u333, u334, u335, u336, u337, u338, u339, u340, u341, u342, u343, u344, u345, u346, u347, u348, u349, u350, u351, u352, u353, u354, u355, u356, u357, u358, u359, u360, u361, u362, u363, u364, u365, u366, u367, u368, u369, u370, u371, u372, u373, u374, u375, u376, u377, u378, u379, u380, u381, u382, u383, u384, u385, u386, u387, u388, u389, u390, u391, u392, u393, u394, u395, u396, u397, u398, u399, u400, u401, u402, u403, u404, u405, u406, u407, u408, u409, u410, u411, u412, u413, u414, u415, u416, u417, u418, u419, u420, u421, u422, u423, u424, u425, u426, u427, u428, u429, u430, u431, u432, u433, u434, u435, u436, u437, u438, u439, u440, u441, u442, u443, u444, u445, u446, u447, u448, u449, u450, u451, u452, u453, u454, u455, u456, u457, u458, u459, u460, u461, u462, u463, u464, u465, u466, u467, u468, u469, u470, u471, u472, u473, u474, u475, u476, u477, u478, u479, u480, u481, u482, u483, u484, u485, u486, u487, u488, u489, u490, u491, u492, u493, u494, u495, u496, u497, u498, u499, u500, u501, u502, u503, u504, u505, u506, u507, u508, u509, u510, u511, u512, u513, u514, u515, u516, u517, u518, u519, u520, u521, u522, u523, u524, u525, u526, u527, u528, u529, u530, u531, u532, u533, u534, u535, u536, u537, u538, u539, u540, u541, u542, u543, u544, u545, u546, u547, u548, u549, u550, u551, u552, u553, u554, u555, u556, u557, u558, u559, u560, u561, u562, u563, u564, u565, u566, u567, u568, u569, u570, u571, u572, u573, u574, u575, u576, u577, u578, u579, u580, u581, u582, u583, u584, u585, u586, u587, u588, u589, u590, u591, u592, u593, u594, u595, u596, u597, u598, u599, u600, u601, u602, u603, u604, u605, u606, u607, u608, u609, u610, u611, u612, u613], defers := [] } wr := by
  have HK : Hid _ := hK
  have hltI : (j : Int) < L := by omega
  have HXS : Hid (u32ok x.s) := hxs
  have HXH : Hid (i64ok x.h) := hxh
  have HXT : Hid (i64ok x.t) := hxt
  have HMS : Hid (mb ≠ sb) := hms
  have HMB : Hid (mb < w0.heap.size) := hmb
  have HSB : Hid (sb < w0.heap.size) := hsb
  have HN : Hid (n < maxLen) := Nat.lt_of_le_of_lt hn (by decide)
  have HN1 : Hid (n + 1 < maxLen) := Nat.lt_of_le_of_lt (Nat.add_le_add_right hn 1) (by decide)
  have HKL : Hid (ks.length ≤ 100000) := hkl
  have K1 : Hid _ := hB.step ((Below.refl _ wr).alloc (Nat.le_refl _) (.cells #[.int .u32 x.s, .int .i64 x.h, .int .i64 x.t, .bool x.b] 44))
  have HPB : Hid ((wr.alloc (.cells #[.int .u32 x.s, .int .i64 x.h, .int .i64 x.t, .bool x.b] 44)).heap[wr.heap.size]? = some (.cells #[.int .u32 x.s, .int .i64 x.h, .int .i64 x.t, .bool x.b] 44)) := (MapKept.heap_alloc wr _).1
  have HPL : Hid (wr.heap.size < (wr.alloc (.cells #[.int .u32 x.s, .int .i64 x.h, .int .i64 x.t, .bool x.b] 44)).heap.size) := by simp [Hid]
  have HPM : Hid (mb < wr.heap.size ∧ sb < wr.heap.size) := ⟨Nat.lt_of_lt_of_le hmb hB.two.size, Nat.lt_of_lt_of_le hsb hB.two.size⟩
  clear hK hB hxs hxh hxt hms hmb hsb hn hkl
  conv => arg 2; whnf
  go_upto_region 61 with fail
  generalize hV : wr.alloc (.cells #[.int .u32 x.s, .int .i64 x.h, .int .i64 x.t, .bool x.b] 44) = V at K1 HPB HPL ⊢
  generalize hpb : wr.heap.size = pb at HPB HPL HPM ⊢
  clear hV hpb c0 c1 c2 c3 hg
  refine wp_region_put (fun w' => Below V.heap.size V w') (fun w' => ∃ w1, Below V.heap.size V w1 ∧ w' = putW w1 mb x.s (memV ⟨atT x.h, atT x.t, x.b⟩)) (psi61 mb pb x) 12 [227, 228, 229, 230, 231, 232, 233, 234, 235, 236, 237, 238] mixed ?h0 (by kernel_rfl) (by kernel_rfl) (by kernel_rfl) (by kernel_rfl) (by kernel_rfl) (by kernel_rfl) ?each ?last ?fin
  case h0 => exact (Below.refl _ _).drew
  case each =>
    simp only [List.dropLast, List.forall_mem_cons]
    refine ⟨?_, ?_, ?_, ?_, ?_, ?_, ?_, ?_, ?_, ?_, ?_, ?_, fun _ h => by cases h⟩
    · intro a w1 hC hs hn
      have h0' : a.tmps.getD 37 undef = .map (some mb) := hs 37 (by kernel_rfl)
      have HC : Hid _ := hC
      clear hs hn hC
      unfold Oper.wp
      simp only [execOp, Act.eval, h0']
      exact ⟨_, rfl, fun t ht => by cases ht; rfl, HC.out⟩
    · intro a w1 hC hs hn
      have h0' : a.tmps.getD 41 undef = .pointer (some ⟨pb, 0, none⟩) := hs 41 (by kernel_rfl)
      have HC : Hid _ := hC
      clear hs hn hC
      unfold Oper.wp
      simp only [execOp, Act.eval, h0']
      go_simp
      exact ⟨_, rfl, rfl, HC.out⟩
    · intro a w1 hC hs hn
      have h0' : a.tmps.getD 228 undef = .pointer (some ⟨pb, 0, none⟩) := hn 228 (by kernel_rfl)
      have HC : Hid _ := hC
      have hc0 : w1.cell? ⟨pb, 0, none⟩ = some (.int .u32 x.s) := cell_of ((hC.block pb HPL.out).trans HPB.out)
      clear hs hn hC
      unfold Oper.wp
      simp only [execOp, Act.eval, h0']
      go_simp
      exact ⟨_, rfl, rfl, HC.out⟩
    · intro a w1 hC hs hn
      have h0' : a.tmps.getD 41 undef = .pointer (some ⟨pb, 0, none⟩) := hs 41 (by kernel_rfl)
      have HC : Hid _ := hC
      clear hs hn hC
      unfold Oper.wp
      simp only [execOp, Act.eval, h0']
      go_simp
      exact ⟨_, rfl, rfl, HC.out⟩
    · intro a w1 hC hs hn
      have h0' : a.tmps.getD 230 undef = .pointer (some ⟨pb, 1, none⟩) := hn 230 (by kernel_rfl)
      have HC : Hid _ := hC
      have hc0 : w1.cell? ⟨pb, 1, none⟩ = some (.int .i64 x.h) := cell_of ((hC.block pb HPL.out).trans HPB.out)
      clear hs hn hC
      unfold Oper.wp
      simp only [execOp, Act.eval, h0']
      go_simp
      exact ⟨_, rfl, rfl, HC.out⟩
    · intro a w1 hC hs hn
      have h0' : a.tmps.getD 231 undef = .int .i64 x.h := hn 231 (by kernel_rfl)
      have HC : Hid _ := hC
      clear hs hn hC
      unfold Oper.wp
      simp only [execOp, Act.eval, h0']
      go_simp
      refine (at_any x.h w1 HXH.out.1 HXH.out.2).mono ?_
      rintro e w2 ⟨rfl, hb⟩
      exact ⟨_, rfl, rfl, HC.out.trans (hb.mono HC.out.size)⟩
    · intro a w1 hC hs hn
      have h0' : a.tmps.getD 41 undef = .pointer (some ⟨pb, 0, none⟩) := hs 41 (by kernel_rfl)
      have HC : Hid _ := hC
      clear hs hn hC
      unfold Oper.wp
      simp only [execOp, Act.eval, h0']
      go_simp
      exact ⟨_, rfl, rfl, HC.out⟩
    · intro a w1 hC hs hn
      have h0' : a.tmps.getD 233 undef = .pointer (some ⟨pb, 2, none⟩) := hn 233 (by kernel_rfl)
      have HC : Hid _ := hC
      have hc0 : w1.cell? ⟨pb, 2, none⟩ = some (.int .i64 x.t) := cell_of ((hC.block pb HPL.out).trans HPB.out)
      clear hs hn hC
      unfold Oper.wp
      simp only [execOp, Act.eval, h0']
      go_simp
      exact ⟨_, rfl, rfl, HC.out⟩
    · intro a w1 hC hs hn
      have h0' : a.tmps.getD 234 undef = .int .i64 x.t := hn 234 (by kernel_rfl)
      have HC : Hid _ := hC
      clear hs hn hC
      unfold Oper.wp
      simp only [execOp, Act.eval, h0']
      go_simp
      refine (at_any x.t w1 HXT.out.1 HXT.out.2).mono ?_
      rintro e w2 ⟨rfl, hb⟩
      exact ⟨_, rfl, rfl, HC.out.trans (hb.mono HC.out.size)⟩
    · intro a w1 hC hs hn
      have h0' : a.tmps.getD 41 undef = .pointer (some ⟨pb, 0, none⟩) := hs 41 (by kernel_rfl)
      have HC : Hid _ := hC
      clear hs hn hC
      unfold Oper.wp
      simp only [execOp, Act.eval, h0']
      go_simp
      exact ⟨_, rfl, rfl, HC.out⟩
    · intro a w1 hC hs hn
      have h0' : a.tmps.getD 236 undef = .pointer (some ⟨pb, 3, none⟩) := hn 236 (by kernel_rfl)
      have HC : Hid _ := hC
      have hc0 : w1.cell? ⟨pb, 3, none⟩ = some (.bool x.b) := cell_of ((hC.block pb HPL.out).trans HPB.out)
      clear hs hn hC
      unfold Oper.wp
      simp only [execOp, Act.eval, h0']
      go_simp
      exact ⟨_, rfl, rfl, HC.out⟩
    · intro a w1 hC hs hn
      have h0' : a.tmps.getD 232 undef = tv (atT x.h).n (atT x.h).s := hn 232 (by kernel_rfl)
      have h1' : a.tmps.getD 235 undef = tv (atT x.t).n (atT x.t).s := hn 235 (by kernel_rfl)
      have h2' : a.tmps.getD 237 undef = .bool x.b := hn 237 (by kernel_rfl)
      have HC : Hid _ := hC
      unfold tv at h0' h1'
      have k0 := h0'
      have k1 := h1'
      have k2 := h2'
      rw [Array.getD_eq_getD_getElem?] at k0 k1 k2
      clear hs hn hC
      unfold Oper.wp
      simp only [execOp, Act.eval, h0', h1', h2']
      go_simp
      exact ⟨_, rfl, rfl, HC.out⟩
  case last =>
    simp only [List.getLast?, List.getLast, Option.mem_def, Option.some.injEq]
    rintro o rfl
    · intro a w1 hC hs hn
      have h0' : a.tmps.getD 227 undef = .map (some mb) := hn 227 (by kernel_rfl)
      have h1' : a.tmps.getD 229 undef = .int .u32 x.s := hn 229 (by kernel_rfl)
      have h2' : a.tmps.getD 238 undef = .agg #[.int .u64 (atT x.h).n, .int .i64 (atT x.h).s, .pointer none, .int .u64 (atT x.t).n, .int .i64 (atT x.t).s, .pointer none, .bool x.b] := hn 238 (by kernel_rfl)
      have HC : Hid _ := hC
      obtain ⟨c1, hm1⟩ := (K1.out.step hC).mem
      have hrun := (putW_run hm1 HN.out HXS.out (memV ⟨atT x.h, atT x.t, x.b⟩)).1
      unfold memV at hrun
      clear hm1
      clear hs hn hC
      unfold Oper.wp
      simp only [execOp, Act.eval, h0', h1', h2']
      go_simp
      exact ⟨w1, HC.out, rfl⟩
  case fin =>
    rintro f0 w1 ⟨w2, hb, rfl⟩ _
    have k2 := K1.out.step hb
    obtain ⟨c1, hm1⟩ := k2.mem
    obtain ⟨_, hmp, hturn⟩ := putW_run hm1 HN.out HXS.out (memV ⟨atT x.h, atT x.t, x.b⟩)
    have K3 : Hid _ := k2.putM HMS.out HMB.out hturn hmp (by omega)
    have PB3 : Hid ((putW w2 mb x.s (memV ⟨atT x.h, atT x.t, x.b⟩)).heap[pb]? = some (.cells #[.int .u32 x.s, .int .i64 x.h, .int .i64 x.t, .bool x.b] 44)) := (turned_other hturn (by have := HPM.out; omega)).trans ((hb.block pb HPL.out).trans HPB.out)
    have p0 : (putW w2 mb x.s (memV ⟨atT x.h, atT x.t, x.b⟩)).cell? ⟨pb, 0, none⟩ = some (.int .u32 x.s) := cell_of PB3.out
    generalize hW3 : putW w2 mb x.s (memV ⟨atT x.h, atT x.t, x.b⟩) = W3 at K3 PB3 p0 ⊢
    clear hW3 k2 hm1 hmp hturn hb
    obtain ⟨c3, hs3⟩ := K3.out.sen
    have LK := mp_look hs3 Ybaz.underlying42 (z := .bool false) (by rfl) HXS.out
    by_cases hin : x.s ∈ ks
    · have e1 : (seenV ks x.s).getD (.bool false) = .bool true := by unfold seenV; rw [if_pos hin]; rfl
      rw [e1] at LK
      have HAD : Hid (addK ks x.s = ks) := by unfold addK; exact if_pos hin
      clear e1 hin hs3
      go_wp2_with fail
      refine HK.out _ _ _ _ _ _ _ _ _ _ _ _ _ _ _ _ _ _ _ _ _ _ _ _ _ _ _ _ _ _ ?_
      rw [HAD.out]
      exact K3.out.more (by omega)
    · have e1 : (seenV ks x.s).getD (.bool false) = .bool false := by unfold seenV; rw [if_neg hin]; rfl
      rw [e1] at LK
      have HAD : Hid (addK ks x.s = ks ++ [x.s]) := by unfold addK; exact if_neg hin
      obtain ⟨hrun2, hmp2, hturn2⟩ := putW2_run hs3 HN1.out HXS.out (.bool true)
      have K4 : Hid _ := K3.out.putS HMS.out HSB.out hturn2 hmp2 (by omega)
      have p1 : (putW2 W3 sb x.s (.bool true)).cell? ⟨pb, 0, none⟩ = some (.int .u32 x.s) := cell_of ((turned_other hturn2 (by have := HPM.out; omega)).trans PB3.out)
      generalize hW4 : putW2 W3 sb x.s (.bool true) = W4 at K4 p1 hrun2 ⊢
      clear e1 hin hs3 hmp2 hturn2 hW4
      go_wp2_with (at_builtin; refine wpList_appK x.s K4.out.1 K4.out.2.1 K4.out.2.2.1 K4.out.2.2.2 HMB.out HSB.out rfl _ _ rfl rfl 1 rfl (by have := HKL.out; omega) ?_; intro vk5 w5 hK5; have K5 : Hid _ := hK5; clear hK5)
      refine HK.out _ _ _ _ _ _ _ _ _ _ _ _ _ _ _ _ _ _ _ _ _ _ _ _ _ _ _ _ _ _ ?_
      rw [HAD.out]
      exact K5.out.more (by omega)

end Go.Proofs.YbulkdsruGreatDoor
