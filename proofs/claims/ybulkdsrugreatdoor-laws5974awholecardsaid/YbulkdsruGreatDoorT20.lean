import Derived.Test.YbulkdsruGreatDoorT23S
import Derived.Test.YbulkdsruGreatDoorR81
import Derived.Test.YbulkdsruGreatDoorR82
import Derived.Test.YbulkdsruGreatDoorR83
namespace Go.Proofs.YbulkdsruGreatDoor
open Go.RowKit Go.Op
set_option linter.unusedVariables false
set_option linter.unusedSimpArgs false
set_option maxRecDepth 100000 in
set_option maxHeartbeats 4000000 in
theorem tail20 (w0 : World) (ge ec g cap g2 cap2 cb mb kb kc n c p : Nat) (byes avg dp dn dw : Int) (lv : Bool) (ks : List Int) (ps : List Pk) (f0 : Ms) (W : World) (hB : Below w0.heap.size w0 W) (hav0 : 0 ≤ avg) (hav1 : avg ≤ 65535) (hp : p ≤ 255) (hby : i64ok byes) (hdp : i64ok dp) (hdn : i64ok dn) (hdw : i64ok dw)
    (hm : mp W mb n c (vals f0)) (hn : n ≤ 10000) (hok : MsOk f0) (hwi : Within f0 ks) (hr : Row W g 0 (flat ps)) (hg : g < W.heap.size) (hr2 : Row W g2 0 (flat ps)) (hg2 : g2 < W.heap.size) (hcb : W.heap[cb]? = some (.cells #[.slice (some ⟨g, 0, none⟩) (flat ps).length cap] 35))
    (hps : ∀ q ∈ ps, q.ok) (hpl : ps.length ≤ 10000) (hcap : (flat ps).length ≤ cap) (hL : (flat ps).length ≤ 10000000) (hE : RowE W ge (evl ps)) (hge : ge < W.heap.size) (hel : (evl ps).length ≤ 2000) (hk3 : ∀ e ∈ evl ps, e.1 = 0 ∨ e.1 = 1 ∨ e.1 = 2) (hke : ∀ e ∈ evl ps, e.2 ∈ ks)
    (hk : Row32 W kb ks) (hkb : kb < W.heap.size) (hu : ∀ k ∈ ks, u32ok k) (hnd : ks.Nodup) (hkl : ks.length ≤ 5000) {u7 u8 u9 u10 u11 u12 u13 u14 u15 u16 u17 u18 u19 u20 u21 u22 u23 u24 u25 u26 u30 u31 u32 u33 u35 u38 u40 u41 u42 u43 u45 u46 u47 u48 u49 u50 u51 u52 u53 u54 u55 u56 u57 u58 u59 u60 u61 u62 u63 u64 u65 u66 u67 u68 u69 u70 u71 u72 u73 u74 u75 u76 u77 u78 u79 u80 u81 u82 u83 u84 u85 u86 u87 u88 u89 u90 u91 u92 u93 u94 u95 u96 u97 u98 u99 u100 u101 u102 u103 u104 u105 u106 u107 u108 u109 u110 u111 u112 u113 u114 u115 u116 u117 u118 u119 u120 u121 u122 u123 u124 u125 u126 u127 u128 u129 u130 u131 u132 u133 u134 u135 u136 u137 u138 u139 u140 u141 u142 u143 u144 u145 u146 u147 u148 u149 u150 u151 u152 u153 u154 u155 u156 u157 u158 u159 u160 u161 u162 u163 u164 u165 u166 u167 u168 u169 u170 u171 u172 u173 u174 u175 u176 u177 u178 u179 u180 u181 u182 u183 u184 u185 u186 u187 u188 u189 u190 u191 u192 u193 u194 u195 u196 u197 u198 u199 u200 u201 u202 u203 u204 u205 u206 u207 u208 u209 u210 u211 u212 u213 u214 u215 u216 u217 u218 u219 u220 u221 u222 u223 u224 u225 u226 u227 u228 u229 u230 u231 u232 u233 u234 u235 u236 u237 u238 u239 u240 u241 u242 u243 u244 u245 u246 u247 u248 u249 u250 u251 u252 u253 u254 u255 u256 u257 u258 u259 u260 u261 u262 u263 u264 u265 u266 u267 u268 u269 u270 u271 u272 u273 u274 u275 u276 u277 u278 u279 u280 u281 u282 u283 u284 u285 u286 u287 u288 u289 u290 u291 u292 u293 u294 u295 u296 u297 u298 u299 u300 u301 u302 u303 u304 u305 u306 u307 u308 u309 u310 u311 u312 u313 u314 u315 u316 u317 u318 u319 u320 u321 u322 u323 u324 u325 u326 u327 u328 u329 u330 u331 u332 u333 u334 u335 u336 u337 u338 u339 u340 u341 u342 u343 u344 u345 u346 u347 u348 u349 u350 u351 u352 u353 u354 u355 u356 u357 u358 u359 u360 u361 u362 u363 u364 u365 u366 u367 u368 u369 u370 u371 u372 u373 u374 u375 u376 u377 u378 u379 u380 u381 u382 u383 u384 u385 u386 u387 u388 u389 u390 u391 u392 u393 u394 u395 u396 u397 u398 u399 u400 u401 u402 u403 u404 u405 u406 u407 u408 u409 u410 u411 u412 u413 u414 u415 u416 u417 u418 u419 u420 u421 u422 u423 u424 u425 u426 u427 u428 u429 u430 u431 u432 u433 u434 u435 u436 u437 u438 u439 u440 u441 u442 u443 u444 u445 u446 u447 u448 u449 u450 u451 u452 u453 u454 u455 u456 u457 u458 u459 u460 u461 u462 u463 u464 u465 u466 u467 u468 u469 u470 u471 u472 u473 u474 u475 u476 u477 u478 u479 u480 u481 u482 u483 u484 u485 u486 u487 u488 u489 u490 u491 u492 u493 u494 u495 u496 u497 u498 u499 u500 u501 u502 u503 u504 u505 u506 u507 u508 u509 u510 u511 u512 u513 u514 u515 u516 u517 u518 u519 u520 u521 u522 u523 u524 u525 u526 u527 u528 u529 u530 u531 u532 u533 u534 u535 u536 u537 u538 u539 u540 u541 u542 u543 u544 u545 u546 u547 u548 u549 u550 u551 u552 u553 u554 u555 u556 u557 u558 u559 u560 u561 u562 u563 u564 u565 u566 u567 u568 u569 u570 u571 u572 u573 u574 u575 u576 u577 u578 u579 u580 u581 u582 u583 u584 u585 u586 u587 u588 u589 u590 u591 u592 u593 u594 u595 u596 u597 u598 u599 u600 u601 u602 u603 u604 u605 u606 u607 u608 u609 u610 u611 u612 u613 : Value} :
    Code.wp Ybaz.prog (lawTail 20) (bodyPost Ybaz.prog Ybaz.f3 fun e w' => e = Ending.returned (.bool true) ∧ Below w0.heap.size w0 w') { tmps := #[.bool lv, .int .i64 byes, .int .u16 avg, .int .u8 (p : Nat), .int .i64 dp, .int .i64 dn, .int .i64 dw, u7, u8, u9, u10, u11, u12, u13, u14, u15, u16, u17, u18, u19, u20, u21, u22, u23, u24, u25, u26, .slice (some ⟨ge, 0, none⟩) (evl ps).length ec, .slice (some ⟨g, 0, none⟩) (flat ps).length cap, .int .i64 (ps.countP Pk.isBye : Nat), u30, u31, u32, u33, .pointer (some ⟨cb, 0, none⟩), u35, .slice (some ⟨g2, 0, none⟩) (flat ps).length cap2, .map (some mb), u38, .slice (some ⟨kb, 0, none⟩) ks.length kc, u40, u41, u42, u43, .int .i64 (cntS f0 ks : Nat), u45, u46, u47, u48, u49, u50, u51, u52, u53, u54, u55, u56, u57, u58, u59, u60, u61, u62, u63, u64, u65, u66, u67, u68, u69, u70, u71, u72, u73, u74, u75, u76, u77, u78, u79, u80, u81, u82, u83, u84, u85, u86, u87, u88, u89, u90, u91, u92, u93, u94, u95, u96, u97, u98, u99, u100, u101, u102, u103, u104, u105, u106, u107, u108, u109, u110, u111, u112, u113, u114, u115, u116, u117, u118, u119, u120, u121, u122, u123, u124, u125, u126, u127, u128, u129, u130, u131, u132, u133, u134, u135, u136, u137, u138, u139, u140, u141, u142, u143, u144, u145, u146, u147, u148, u149, u150, u151, u152, u153, u154, u155, u156, u157, u158, u159, u160, u161, u162, u163, u164, u165, u166, u167, u168, u169, u170, u171, u172, u173, u174, u175, u176, u177, u178, u179, u180, u181, u182, u183, u184, u185, u186, u187, u188, u189, u190, u191, u192, u193, u194, u195, u196, u197, u198, u199, u200, u201, u202, u203, u204, u205, u206, u207, u208, u209, u210, u211, u212, u213, u214, u215, u216, u217, u218, u219, u220, u221, u222, u223, u224, u225, u226, u227, u228, u229, u230, u231, u232, u233, u234, u235, u236, u237, u238, u239, u240, u241, u242, u243, u244, u245, u246, u247, u248, u249, u250, u251, u252, u253, u254, u255, u256, u257, u258, u259, u260, u261, u262, u263, u264, u265, u266, u267, u268, u269, u270, u271, u272, u273, u274, u275, u276, u277, u278, u279, u280, u281, u282, u283, u284, u285, u286, u287, u288, u289, u290, u291, u292, u293, u294, u295, u296, u297, u298, u299, u300, u301, u302, u303, u304, u305, u306, u307, u308, u309, u310, u311, u312, u313, u314, u315, u316, u317, u318, u319, u320, u321, u322, u323, u324, u325, u326, u327, u328, u329, u330, u331, u332, u333, u334, u335, u336, u337, u338, u339, u340, u341, u342, u343, u344, u345, u346, u347, u348, u349, u350, u351, u352, u353, u354, u355, u356, u357, u358, u359, u360, u361, u362, u363, u364, u365, u366, u367, u368, u369, u370, u371, u372, u373, u374, u375, u376, u377, u378, u379, u380, u381, u382, u383, u384, u385, u386, u387, u388, u389, u390, u391, u392, u393, u394, u395, u396, u397, u398, u399, u400, u401, u402, u403, u404, u405, u406, u407, u408, u409, u410, u411, u412, u413, u414, u415, u416, u417, u418, u419, u420, u421, u422, u423, u424, u425, u426, u427, u428, u429, u430, u431, u432, u433, u434, u435, u436, u437, u438, u439, u440, u441, u442, u443, u444, u445, u446, u447, u448, u449, u450, u451, u452, u453, u454, u455, u456, u457, u458, u459, u460, u461, u462, u463, u464, u465, u466, u467, u468, u469, u470, u471, u472, u473, u474, u475, u476, u477, u478, u479, u480, u481, u482, u483, u484, u485, u486, u487, u488, u489, u490, u491, u492, u493, u494, u495, u496, u497, u498, u499, u500, u501, u502, u503, u504, u505, u506, u507, u508, u509, u510, u511, u512, u513, u514, u515, u516, u517, u518, u519, u520, u521, u522, u523, u524, u525, u526, u527, u528, u529, u530, u531, u532, u533, u534, u535, u536, u537, u538, u539, u540, u541, u542, u543, u544, u545, u546, u547, u548, u549, u550, u551, u552, u553, u554, u555, u556, u557, u558, u559, u560, u561, u562, u563, u564, u565, u566, u567, u568, u569, u570, u571, u572, u573, u574, u575, u576, u577, u578, u579, u580, u581, u582, u583, u584, u585, u586, u587, u588, u589, u590, u591, u592, u593, u594, u595, u596, u597, u598, u599, u600, u601, u602, u603, u604, u605, u606, u607, u608, u609, u610, u611, u612, u613], defers := [] } W := by
  have HB : Hid (Below w0.heap.size w0 W) := hB
  have HI : Hid ((0 ≤ avg ∧ avg ≤ 65535) ∧ p ≤ 255 ∧ i64ok byes ∧ i64ok dp ∧ i64ok dn ∧ i64ok dw) := ⟨⟨hav0, hav1⟩, hp, hby, hdp, hdn, hdw⟩
  have HM : Hid (mp W mb n c (vals f0) ∧ n ≤ 10000 ∧ MsOk f0 ∧ Within f0 ks) := ⟨hm, hn, hok, hwi⟩
  have HR : Hid (Row W g 0 (flat ps) ∧ g < W.heap.size ∧ Row W g2 0 (flat ps) ∧ g2 < W.heap.size ∧ W.heap[cb]? = some (.cells #[.slice (some ⟨g, 0, none⟩) (flat ps).length cap] 35)) := ⟨hr, hg, hr2, hg2, hcb⟩
  have HP : Hid ((∀ q ∈ ps, q.ok) ∧ ps.length ≤ 10000 ∧ (flat ps).length ≤ cap ∧ (flat ps).length ≤ 10000000) := ⟨hps, hpl, hcap, hL⟩
  have HE : Hid (RowE W ge (evl ps) ∧ ge < W.heap.size ∧ (evl ps).length ≤ 2000 ∧ (∀ e ∈ evl ps, e.1 = 0 ∨ e.1 = 1 ∨ e.1 = 2) ∧ ∀ e ∈ evl ps, e.2 ∈ ks) := ⟨hE, hge, hel, hk3, hke⟩
  have HK : Hid (Row32 W kb ks ∧ kb < W.heap.size ∧ (∀ k ∈ ks, u32ok k) ∧ ks.Nodup ∧ ks.length ≤ 5000) := ⟨hk, hkb, hu, hnd, hkl⟩
  have HA : Hid (rg (floatOfInt .f64 avg) < INF) := u16_lt hav0 hav1
  clear hB hav0 hav1 hp hby hdp hdn hdw hm hn hok hwi hr hg hr2 hg2 hcb hps hpl hcap hL hE hge hel hk3 hke hk hkb hu hnd hkl
  conv => arg 2; whnf
  go_upto_region 81 with fail
  refine reg81 dp dn dw W HI.out.2.2.2.1 HI.out.2.2.2.2.1 HI.out.2.2.2.2.2 _ ?_
  intro pb nb wb _ _ _ _ _ _ W1 hpb hnb hwb hb1
  have HPB : Hid (W1.heap[pb]? = some (.cells #[.int .u64 (atT dp).n, .int .i64 (atT dp).s, .pointer none] 48)) := hpb
  have HNB : Hid (W1.heap[nb]? = some (.cells #[.int .u64 (atT dn).n, .int .i64 (atT dn).s, .pointer none] 48)) := hnb
  have HWB : Hid (W1.heap[wb]? = some (.cells #[.int .u64 (atT dw).n, .int .i64 (atT dw).s, .pointer none] 48)) := hwb
  have B1 : Hid (Below W.heap.size W W1) := hb1
  clear hpb hnb hwb hb1
  go_upto_region 82 with fail
  refine reg82 pb nb mb n c avg _ _ byes (atT dp) (atT dn) lv (vals f0) W1 (mp_below HM.out.1 B1.out (mp_lt HM.out.1)) HPB.out HNB.out (by omega) (by have := HI.out.2.1; omega) _ ?_
  intro _ _ _ _ _ _ _ _ _ _ _ _ _ W2 hm2 hs2 hb2
  have M2 : Hid (mp W2 W1.heap.size n c (vals f0)) := hm2
  have S2 : Hid (Stt W2 (W1.heap.size + 1) ({ avg := floatOfInt .f64 avg, mb := W1.heap.size, snd := (cntS f0 ks : Nat), pm := (p : Nat), tp := atT dp, tn := atT dn, lv := lv, byes := byes } : StV)) := hs2
  have B2 : Hid (Below W1.heap.size W1 W2) := hb2
  clear hm2 hs2 hb2
  have BW2 : Hid (Below W.heap.size W W2) := B1.out.trans (B2.out.mono B1.out.size)
  have C2 : Hid (W2.cell? ⟨cb, 0, none⟩ = some (.slice (some ⟨g, 0, none⟩) (flat ps).length cap)) := cell_of ((BW2.out.block cb (Array.getElem?_eq_some_iff.1 HR.out.2.2.2.2).1).trans HR.out.2.2.2.2)
  have N2 : Hid (W2.heap[wb]? = some (.cells #[.int .u64 (atT dw).n, .int .i64 (atT dw).s, .pointer none] 48)) := (B2.out.block wb (Array.getElem?_eq_some_iff.1 HWB.out).1).trans HWB.out
  have hlt : Hid (W.heap.size ≤ W1.heap.size) := B1.out.size
  have hl2 : Hid (W1.heap.size + 1 < W2.heap.size) := S2.out.lt
  go_upto_region 83 with fail
  rename_i Q1 K1 hK1
  cases lv with
  | true =>
    have hP := received_leave (W1.heap.size + 1) g 0 cap ps ({ avg := floatOfInt .f64 avg, mb := W1.heap.size, snd := (cntS f0 ks : Nat), pm := (p : Nat), tp := atT dp, tn := atT dn, lv := true, byes := byes } : StV) (atT dw) W2 S2.out rfl (HR.out.1.below BW2.out HR.out.2.1) (Nat.lt_of_lt_of_le HR.out.2.1 BW2.out.size) (by have := HR.out.2.1; have := hlt.out; omega) HP.out.1 HP.out.2.2.1 (Nat.le_trans HP.out.2.2.2 (by decide)) HA.out
    refine reg83 (W1.heap.size + 1) cb wb _ (atT dw) _ W2 C2.out N2.out hP _ ?_
    intro _ _ _ _ W3 hp3
    obtain ⟨hs3, ht3⟩ := hp3
    refine hK1 _ _ ?_
    have hbk : ∀ k, k < W1.heap.size + 1 → W3.heap[k]? = W2.heap[k]? := fun k hk => ht3.block k (by have := hl2.out; omega) (by omega) (by omega)
    have hbw : ∀ k, k < W1.heap.size → W3.heap[k]? = W1.heap[k]? := fun k hk => (hbk k (by omega)).trans (B2.out.block k hk)
    have hbv : ∀ k, k < W.heap.size → W3.heap[k]? = W.heap[k]? := fun k hk => (hbw k (Nat.lt_of_lt_of_le hk hlt.out)).trans (B1.out.block k hk)
    have hB3 : Below w0.heap.size w0 W3 := (HB.out.trans (BW2.out.mono HB.out.size)).trans (ht3.to_below (Nat.le_trans HB.out.size BW2.out.size) (by have := HB.out.size; have := hlt.out; omega) (by have := HB.out.size; have := hlt.out; omega))
    have r1 : Row W3 g 0 (flat ps) := fun i v hv => (World.cell?_of_block (hbv g HR.out.2.1)).trans (HR.out.1 i v hv)
    have r2 : Row W3 g2 0 (flat ps) := fun i v hv => (World.cell?_of_block (hbv g2 HR.out.2.2.2.1)).trans (HR.out.2.2.1 i v hv)
    have r3 : Row32 W3 kb ks := fun i v hv => (World.cell?_of_block (hbv kb HK.out.2.1)).trans (HK.out.1 i v hv)
    have m1 : ∃ c, mp W3 W1.heap.size n c (vals f0) := ⟨c, mp_block M2.out (hbk _ (by omega))⟩
    have m2 : ∃ c, mp W3 mb n c (vals f0) := ⟨c, mp_block HM.out.1 (hbv _ (mp_lt HM.out.1))⟩
    have hk3 : kb < W3.heap.size := Nat.lt_of_lt_of_le HK.out.2.1 (Nat.le_trans BW2.out.size ht3.size)
    have a3 := (hbw pb (Array.getElem?_eq_some_iff.1 HPB.out).1).trans HPB.out
    have t3 := (hbw nb (Array.getElem?_eq_some_iff.1 HNB.out).1).trans HNB.out
    have hpw : IntKind.i64.wrap ((p : Nat) : Int) = (p : Nat) := by have := HI.out.2.1; simp [IntKind.wrap, IntKind.bits, IntKind.signed]; omega
    by_cases hn : ps.countP Pk.isBye = 0
    · have e : leaveS ({ avg := floatOfInt .f64 avg, mb := W1.heap.size, snd := (cntS f0 ks : Nat), pm := (p : Nat), tp := atT dp, tn := atT dn, lv := true, byes := byes } : StV) ps = ({ avg := floatOfInt .f64 avg, mb := W1.heap.size, snd := (cntS f0 ks : Nat), pm := (p : Nat), tp := atT dp, tn := atT dn, lv := true, byes := byes } : StV) := if_pos hn
      rw [e] at hs3
      exact tail23L w0 (W1.heap.size + 1) pb nb mb kb kc n n g g2 cap cap2 (flat ps).length (ps.countP Pk.isBye) byes avg ks (flat ps) f0 ({ avg := floatOfInt .f64 avg, mb := W1.heap.size, snd := (cntS f0 ks : Nat), pm := (p : Nat), tp := atT dp, tn := atT dn, lv := true, byes := byes } : StV) W3 hB3 hs3 rfl HI.out.1.1 HI.out.1.2 (if_pos hn).symm r1 r2 rfl HP.out.2.2.2 a3 t3 (atT_ok _) (atT_ok _) (by rw [hn]; have := HI.out.2.2.1; unfold i64ok at this; simp [IntKind.wrap, IntKind.bits, IntKind.signed]; omega) hpw m1 m2 HM.out.2.2.1 r3 hk3 HK.out.2.2.1 (Nat.le_trans HK.out.2.2.2.2 (by decide))
    · have e : leaveS ({ avg := floatOfInt .f64 avg, mb := W1.heap.size, snd := (cntS f0 ks : Nat), pm := (p : Nat), tp := atT dp, tn := atT dn, lv := true, byes := byes } : StV) ps = { ({ avg := floatOfInt .f64 avg, mb := W1.heap.size, snd := (cntS f0 ks : Nat), pm := (p : Nat), tp := atT dp, tn := atT dn, lv := true, byes := byes } : StV) with avg := avgF (floatOfInt .f64 avg) (flat ps).length, byes := IntKind.i64.wrap (byes + (ps.countP Pk.isBye : Nat)) } := if_neg hn
      rw [e] at hs3
      exact tail23L w0 (W1.heap.size + 1) pb nb mb kb kc n n g g2 cap cap2 (flat ps).length (ps.countP Pk.isBye) byes avg ks (flat ps) f0 _ W3 hB3 hs3 rfl HI.out.1.1 HI.out.1.2 (if_neg hn).symm r1 r2 rfl HP.out.2.2.2 a3 t3 (atT_ok _) (atT_ok _) rfl hpw m1 m2 HM.out.2.2.1 r3 hk3 HK.out.2.2.1 (Nat.le_trans HK.out.2.2.2.2 (by decide))
  | false =>
    have hP := received_stay (W1.heap.size + 1) g 0 cap n c p ps ({ avg := floatOfInt .f64 avg, mb := W1.heap.size, snd := (cntS f0 ks : Nat), pm := (p : Nat), tp := atT dp, tn := atT dn, lv := false, byes := byes } : StV) ks f0 (atT dw) W2 S2.out rfl rfl M2.out (HR.out.1.below BW2.out HR.out.2.1) (Nat.lt_of_lt_of_le HR.out.2.1 BW2.out.size) (by have := HR.out.2.1; have := hlt.out; omega) (by show g ≠ W1.heap.size; have := HR.out.2.1; have := hlt.out; omega) HP.out.1 HP.out.2.2.1 (Nat.le_trans HP.out.2.2.2 (by decide)) HA.out HK.out.2.2.2.1 (Nat.le_trans HK.out.2.2.2.2 (by decide)) (fun q hq e he => HE.out.2.2.2.2 e (List.mem_flatMap.2 ⟨q, hq, he⟩)) (by have := HM.out.2.1; have := HP.out.2.1; omega) rfl HI.out.2.1 (atT_ok _) (atT_ok _) (atT_ok _)
    refine reg83 (W1.heap.size + 1) cb wb _ (atT dw) _ W2 C2.out N2.out hP _ ?_
    intro _ _ _ _ W3 hp3
    obtain ⟨⟨c3, n3, hm3, hs3⟩, ht3⟩ := hp3
    refine hK1 _ _ ?_
    have hbw : ∀ k, k < W1.heap.size → W3.heap[k]? = W1.heap[k]? := fun k hk => (ht3.block k (by have := hl2.out; omega) (by omega) (by show k ≠ W1.heap.size; omega)).trans (B2.out.block k hk)
    have hbv : ∀ k, k < W.heap.size → W3.heap[k]? = W.heap[k]? := fun k hk => (hbw k (Nat.lt_of_lt_of_le hk hlt.out)).trans (B1.out.block k hk)
    have hB3 : Below w0.heap.size w0 W3 := (HB.out.trans (BW2.out.mono HB.out.size)).trans (ht3.to_below (Nat.le_trans HB.out.size BW2.out.size) (by have := HB.out.size; have := hlt.out; omega) (by show w0.heap.size ≤ W1.heap.size; have := HB.out.size; have := hlt.out; omega))
    have r1 : Row W3 g 0 (flat ps) := fun i v hv => (World.cell?_of_block (hbv g HR.out.2.1)).trans (HR.out.1 i v hv)
    have r2 : Row W3 g2 0 (flat ps) := fun i v hv => (World.cell?_of_block (hbv g2 HR.out.2.2.2.1)).trans (HR.out.2.2.1 i v hv)
    have r3 : Row32 W3 kb ks := fun i v hv => (World.cell?_of_block (hbv kb HK.out.2.1)).trans (HK.out.1 i v hv)
    have m2 : ∃ c, mp W3 mb n c (vals f0) := ⟨c, mp_block HM.out.1 (hbv _ (mp_lt HM.out.1))⟩
    have hk3 : kb < W3.heap.size := Nat.lt_of_lt_of_le HK.out.2.1 (Nat.le_trans BW2.out.size ht3.size)
    have hg3 : ge < W3.heap.size := Nat.lt_of_lt_of_le HE.out.2.1 (Nat.le_trans BW2.out.size ht3.size)
    have a3 := (hbw pb (Array.getElem?_eq_some_iff.1 HPB.out).1).trans HPB.out
    have t3 := (hbw nb (Array.getElem?_eq_some_iff.1 HNB.out).1).trans HNB.out
    have w3 := (hbw wb (Array.getElem?_eq_some_iff.1 HWB.out).1).trans HWB.out
    exact tail23S w0 (W1.heap.size + 1) pb nb wb mb ge ec kb kc n n3 c3 p g g2 cap cap2 (flat ps).length byes avg ks (flat ps) (evl ps) f0 _ (atT dw) W3 hB3 hs3 rfl HI.out.1.1 HI.out.1.2 rfl r1 r2 rfl HP.out.2.2.2 rfl rfl a3 t3 w3 (atT_ok _) (atT_ok _) (atT_ok _) rfl HI.out.2.1 hm3 m2 (msOk_run (atT_ok _) (evl ps) HM.out.2.2.1) (within_run (evl ps) HM.out.2.2.2 HE.out.2.2.2.2) (HE.out.1.block (hbv ge HE.out.2.1)) hg3 HE.out.2.2.1 HE.out.2.2.2.1 r3 hk3 HK.out.2.2.1 HK.out.2.2.2.1 HK.out.2.2.2.2
end Go.Proofs.YbulkdsruGreatDoor
