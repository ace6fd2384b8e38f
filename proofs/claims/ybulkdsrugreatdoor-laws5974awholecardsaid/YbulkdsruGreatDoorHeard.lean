import Derived.Test.YbulkdsruGreatDoorLeft
namespace Go.Proofs.YbulkdsruGreatDoor
open Go.RowKit Go.Op
set_option linter.unusedVariables false
set_option linter.unusedSimpArgs false

/-- The world behind 'm[k] = v'. -/
noncomputable def putW (W : World) (mb : Nat) (k : Int) (v : Value) : World :=
  match (Instr.mapUpdate 41 (.map (some mb)) (.int .u32 k) v).run Ybaz.prog W with
  | .ok _ w' => w'
  | .halt _ w' => w'

theorem putW_run {W : World} {mb n c : Nat} {f : Int → Option Value} (h : mp W mb n c f) (hn : n < maxLen) {k : Int} (hk : u32ok k) (v : Value) :
    (Instr.mapUpdate 41 (.map (some mb)) (.int .u32 k) v).run Ybaz.prog W = .ok () (putW W mb k v) ∧ (∃ c', mp (putW W mb k v) mb (n + 1) c' (updV f k (some v))) ∧ W.mapTurned (putW W mb k v) mb := by
  obtain ⟨w', hrun, r1, r2⟩ := mp_store h Ybaz.underlying41 hn hk v
  have e : putW W mb k v = w' := by unfold putW; rw [hrun]
  rw [e]
  exact ⟨hrun, r1, r2⟩

set_option maxRecDepth 8000 in
set_option maxHeartbeats 1000000 in
theorem heard_tt (b n c : Nat) (S : StV) (k : Int) (now : Tm) (f : Ms) (q : Mem) (w : World) (hq : (f k).getD Mem.zero = q) (hb : q.sender = true) (hs : Stt w b S) (hm : mp w S.mb n c (vals f)) (hk : u32ok k) (hn : n < maxLen) (hs0 : -1000000 ≤ S.snd) (hs1 : S.snd ≤ 1000000) :
    Calls Ybaz.prog 24 #[.pointer (some ⟨b, 0, none⟩), .int .u32 k, now.v, .bool true] w fun e w' => e = .returned (.tuple #[]) ∧ Stt w' b { S with snd := S.snd } ∧ (∃ c', mp w' S.mb (n + 1) c' (updV (vals f) k (some (memV ⟨now, now, true⟩)))) ∧ Two b S.mb w w' := by
  have hne := hs.ne hm
  have HB : Hid (Below w.heap.size w (w.alloc (.cells #[.int .u64 now.n, .int .i64 now.s, .pointer none] 48))) := (Below.refl _ w).alloc (Nat.le_refl _) _
  have hl := mp_look (mp_below hm HB.out (mp_lt hm)) Ybaz.underlying41 (Ybaz.zeroValue51 _) hk
  rw [show (vals f k).getD (.agg #[.int .u64 0, .int .i64 0, .pointer none, .int .u64 0, .int .i64 0, .pointer none, .bool false]) = memV q from by rw [← hq]; exact vals_getD f k] at hl
  have c5 : w.cell? ⟨b, 5, none⟩ = some (.map (some S.mb)) := cell_of hs
  have c6 : w.cell? ⟨b, 6, none⟩ = some (.int .i64 S.snd) := cell_of hs
  have f6 : w.frozen? ⟨b, 6, none⟩ = false := frozen_of hs
  have g0 : ¬ b = w.heap.size := by have := hs.lt; omega
  have g1 : ¬ b = w.heap.size + 1 := by have := hs.lt; omega
  have g2 : b < w.heap.size := hs.lt
  have HS : Hid (w.heap[b]? = some (.cells S.cells 58)) := hs
  have HM : Hid (mp w S.mb n c (vals f)) := hm
  have HN : Hid (b ≠ S.mb) := hne
  have HK : Hid (u32ok k) := hk
  clear hs hm hk hne hq
  unfold memV at hl
  rw [hb] at hl
  clear hb
  have E1 : IntKind.i64.wrap (S.snd - 1) = S.snd - 1 := by simp [IntKind.wrap, IntKind.bits, IntKind.signed]; omega
  have E2 : IntKind.i64.wrap (S.snd - 1 + 1) = S.snd - 1 + 1 := by simp [IntKind.wrap, IntKind.bits, IntKind.signed]; omega
  have E3 : IntKind.i64.wrap (S.snd + 1) = S.snd + 1 := by simp [IntKind.wrap, IntKind.bits, IntKind.signed]; omega
  unfold Tm.v tv
  go_enter Ybaz.func24, Ybaz.ntmps24
  go_wp2_with fail
  have hB2 : Below ((w.setCell ⟨b, 6, none⟩ (.int .i64 (S.snd - 1))).setCell ⟨b, 6, none⟩ (.int .i64 S.snd)).heap.size ((w.setCell ⟨b, 6, none⟩ (.int .i64 (S.snd - 1))).setCell ⟨b, 6, none⟩ (.int .i64 S.snd)) ((((w.setCell ⟨b, 6, none⟩ (.int .i64 (S.snd - 1))).setCell ⟨b, 6, none⟩ (.int .i64 S.snd)).alloc (.cells #[.int .u64 now.n, .int .i64 now.s, .pointer none] 48)).alloc (.cells #[.int .u64 now.n, .int .i64 now.s, .pointer none, .int .u64 now.n, .int .i64 now.s, .pointer none, .bool true] 51)) := ((Below.refl _ _).alloc (Nat.le_refl _) _).alloc (by simp) _
  have hz0 : ((w.setCell ⟨b, 6, none⟩ (.int .i64 (S.snd - 1))).setCell ⟨b, 6, none⟩ (.int .i64 S.snd)).heap.size = w.heap.size := by simp
  have hblk : ((((w.setCell ⟨b, 6, none⟩ (.int .i64 (S.snd - 1))).setCell ⟨b, 6, none⟩ (.int .i64 S.snd)).alloc (.cells #[.int .u64 now.n, .int .i64 now.s, .pointer none] 48)).alloc (.cells #[.int .u64 now.n, .int .i64 now.s, .pointer none, .int .u64 now.n, .int .i64 now.s, .pointer none, .bool true] 51)).heap[b]? = some (.cells ({ S with snd := S.snd } : StV).cells 58) := by
    rw [hB2.block b (by rw [hz0]; exact g2), (heap_set (heap_set HS.out (i := 6) (.int .i64 (S.snd - 1))) (i := 6) (.int .i64 S.snd))]
    simp [StV.cells]
  have hmW : mp ((((w.setCell ⟨b, 6, none⟩ (.int .i64 (S.snd - 1))).setCell ⟨b, 6, none⟩ (.int .i64 S.snd)).alloc (.cells #[.int .u64 now.n, .int .i64 now.s, .pointer none] 48)).alloc (.cells #[.int .u64 now.n, .int .i64 now.s, .pointer none, .int .u64 now.n, .int .i64 now.s, .pointer none, .bool true] 51)).drew S.mb n c (vals f) := mp_block HM.out (show ((((w.setCell ⟨b, 6, none⟩ (.int .i64 (S.snd - 1))).setCell ⟨b, 6, none⟩ (.int .i64 S.snd)).alloc (.cells #[.int .u64 now.n, .int .i64 now.s, .pointer none] 48)).alloc (.cells #[.int .u64 now.n, .int .i64 now.s, .pointer none, .int .u64 now.n, .int .i64 now.s, .pointer none, .bool true] 51)).heap[S.mb]? = _ from (hB2.block S.mb (by rw [hz0]; exact mp_lt HM.out)).trans ((Below.heap_setCell _ _ _ _ (fun e => HN.out e.symm)).trans (Below.heap_setCell _ _ _ _ (fun e => HN.out e.symm))))
  have htw : Two b S.mb w ((((w.setCell ⟨b, 6, none⟩ (.int .i64 (S.snd - 1))).setCell ⟨b, 6, none⟩ (.int .i64 S.snd)).alloc (.cells #[.int .u64 now.n, .int .i64 now.s, .pointer none] 48)).alloc (.cells #[.int .u64 now.n, .int .i64 now.s, .pointer none, .int .u64 now.n, .int .i64 now.s, .pointer none, .bool true] 51)).drew := (((((Two.refl b S.mb w).setCell 6 _).setCell 6 _).alloc (.cells #[.int .u64 now.n, .int .i64 now.s, .pointer none] 48)).alloc (.cells #[.int .u64 now.n, .int .i64 now.s, .pointer none, .int .u64 now.n, .int .i64 now.s, .pointer none, .bool true] 51)).drew
  have d5 : ((((w.setCell ⟨b, 6, none⟩ (.int .i64 (S.snd - 1))).setCell ⟨b, 6, none⟩ (.int .i64 S.snd)).alloc (.cells #[.int .u64 now.n, .int .i64 now.s, .pointer none] 48)).alloc (.cells #[.int .u64 now.n, .int .i64 now.s, .pointer none, .int .u64 now.n, .int .i64 now.s, .pointer none, .bool true] 51)).cell? ⟨b, 5, none⟩ = some (.map (some S.mb)) := cell_of hblk
  have m0 : ((((w.setCell ⟨b, 6, none⟩ (.int .i64 (S.snd - 1))).setCell ⟨b, 6, none⟩ (.int .i64 S.snd)).alloc (.cells #[.int .u64 now.n, .int .i64 now.s, .pointer none] 48)).alloc (.cells #[.int .u64 now.n, .int .i64 now.s, .pointer none, .int .u64 now.n, .int .i64 now.s, .pointer none, .bool true] 51)).heap[w.heap.size + 1]? = some (.cells #[.int .u64 now.n, .int .i64 now.s, .pointer none, .int .u64 now.n, .int .i64 now.s, .pointer none, .bool true] 51) := by
    have h := (MapKept.heap_alloc (((w.setCell ⟨b, 6, none⟩ (.int .i64 (S.snd - 1))).setCell ⟨b, 6, none⟩ (.int .i64 S.snd)).alloc (.cells #[.int .u64 now.n, .int .i64 now.s, .pointer none] 48)) (.cells #[.int .u64 now.n, .int .i64 now.s, .pointer none, .int .u64 now.n, .int .i64 now.s, .pointer none, .bool true] 51)).1
    rw [World.size_alloc, hz0] at h
    exact h
  have hlt : S.mb < w.heap.size := mp_lt HM.out
  have hq6 : w.heap.size + 1 ≠ S.mb := by omega
  generalize ((((w.setCell ⟨b, 6, none⟩ (.int .i64 (S.snd - 1))).setCell ⟨b, 6, none⟩ (.int .i64 S.snd)).alloc (.cells #[.int .u64 now.n, .int .i64 now.s, .pointer none] 48)).alloc (.cells #[.int .u64 now.n, .int .i64 now.s, .pointer none, .int .u64 now.n, .int .i64 now.s, .pointer none, .bool true] 51)) = W at hblk hmW htw d5 m0 ⊢
  obtain ⟨hrun, hmp, hturn⟩ := putW_run hmW hn HK.out (memV ⟨now, now, true⟩)
  have HT : Hid _ := hturn
  have HW : Hid _ := htw
  have HP : Hid _ := hmp
  have HX : Hid _ := hblk
  have x0 : W.cell? ⟨w.heap.size + 1, 0, none⟩ = some (.int .u64 now.n) := cell_of m0
  have x1 : W.cell? ⟨w.heap.size + 1, 1, none⟩ = some (.int .i64 now.s) := cell_of m0
  have x2 : W.cell? ⟨w.heap.size + 1, 2, none⟩ = some (.pointer none) := cell_of m0
  have x3 : W.cell? ⟨w.heap.size + 1, 3, none⟩ = some (.int .u64 now.n) := cell_of m0
  have x4 : W.cell? ⟨w.heap.size + 1, 4, none⟩ = some (.int .i64 now.s) := cell_of m0
  have x5 : W.cell? ⟨w.heap.size + 1, 5, none⟩ = some (.pointer none) := cell_of m0
  have x6 : W.cell? ⟨w.heap.size + 1, 6, none⟩ = some (.bool true) := cell_of m0
  unfold memV at hrun HT HP
  have y5 : (putW W.drew S.mb k (.agg #[.int .u64 now.n, .int .i64 now.s, .pointer none, .int .u64 now.n, .int .i64 now.s, .pointer none, .bool true])).cell? ⟨b, 5, none⟩ = some (.map (some S.mb)) := (World.cell?_of_block (turned_other HT.out HN.out)).trans d5
  have y_0 : (putW W.drew S.mb k (.agg #[.int .u64 now.n, .int .i64 now.s, .pointer none, .int .u64 now.n, .int .i64 now.s, .pointer none, .bool true])).cell? ⟨w.heap.size + 1, 0, none⟩ = some (.int .u64 now.n) := (World.cell?_of_block (turned_other HT.out hq6)).trans x0
  have y_1 : (putW W.drew S.mb k (.agg #[.int .u64 now.n, .int .i64 now.s, .pointer none, .int .u64 now.n, .int .i64 now.s, .pointer none, .bool true])).cell? ⟨w.heap.size + 1, 1, none⟩ = some (.int .i64 now.s) := (World.cell?_of_block (turned_other HT.out hq6)).trans x1
  have y_2 : (putW W.drew S.mb k (.agg #[.int .u64 now.n, .int .i64 now.s, .pointer none, .int .u64 now.n, .int .i64 now.s, .pointer none, .bool true])).cell? ⟨w.heap.size + 1, 2, none⟩ = some (.pointer none) := (World.cell?_of_block (turned_other HT.out hq6)).trans x2
  have y_3 : (putW W.drew S.mb k (.agg #[.int .u64 now.n, .int .i64 now.s, .pointer none, .int .u64 now.n, .int .i64 now.s, .pointer none, .bool true])).cell? ⟨w.heap.size + 1, 3, none⟩ = some (.int .u64 now.n) := (World.cell?_of_block (turned_other HT.out hq6)).trans x3
  have y_4 : (putW W.drew S.mb k (.agg #[.int .u64 now.n, .int .i64 now.s, .pointer none, .int .u64 now.n, .int .i64 now.s, .pointer none, .bool true])).cell? ⟨w.heap.size + 1, 4, none⟩ = some (.int .i64 now.s) := (World.cell?_of_block (turned_other HT.out hq6)).trans x4
  have y_5 : (putW W.drew S.mb k (.agg #[.int .u64 now.n, .int .i64 now.s, .pointer none, .int .u64 now.n, .int .i64 now.s, .pointer none, .bool true])).cell? ⟨w.heap.size + 1, 5, none⟩ = some (.pointer none) := (World.cell?_of_block (turned_other HT.out hq6)).trans x5
  have y_6 : (putW W.drew S.mb k (.agg #[.int .u64 now.n, .int .i64 now.s, .pointer none, .int .u64 now.n, .int .i64 now.s, .pointer none, .bool true])).cell? ⟨w.heap.size + 1, 6, none⟩ = some (.bool true) := (World.cell?_of_block (turned_other HT.out hq6)).trans x6
  clear hq6 hlt hturn htw hmp hblk hB2 hz0 hl c5 c6 f6 g0 g1 g2 E1 E2 E3 hmW m0
  go_region_held3 (fun w' => w'.cell? ⟨b, 5, none⟩ = some (.map (some S.mb)) ∧ w'.cell? ⟨w.heap.size + 1, 0, none⟩ = some (.int .u64 now.n) ∧ w'.cell? ⟨w.heap.size + 1, 1, none⟩ = some (.int .i64 now.s) ∧ w'.cell? ⟨w.heap.size + 1, 2, none⟩ = some (.pointer none) ∧ w'.cell? ⟨w.heap.size + 1, 3, none⟩ = some (.int .u64 now.n) ∧ w'.cell? ⟨w.heap.size + 1, 4, none⟩ = some (.int .i64 now.s) ∧ w'.cell? ⟨w.heap.size + 1, 5, none⟩ = some (.pointer none) ∧ w'.cell? ⟨w.heap.size + 1, 6, none⟩ = some (.bool true)) (go_keep) (fail)
  all_goals go_wp2_with fail
  all_goals go_end0
  all_goals exact ⟨rfl, (turned_other HT.out HN.out).trans HX.out, HP.out, HW.out.turned HT.out⟩

set_option maxRecDepth 8000 in
set_option maxHeartbeats 1000000 in
theorem heard_tf (b n c : Nat) (S : StV) (k : Int) (now : Tm) (f : Ms) (q : Mem) (w : World) (hq : (f k).getD Mem.zero = q) (hb : q.sender = true) (hs : Stt w b S) (hm : mp w S.mb n c (vals f)) (hk : u32ok k) (hn : n < maxLen) (hs0 : -1000000 ≤ S.snd) (hs1 : S.snd ≤ 1000000) :
    Calls Ybaz.prog 24 #[.pointer (some ⟨b, 0, none⟩), .int .u32 k, now.v, .bool false] w fun e w' => e = .returned (.tuple #[]) ∧ Stt w' b { S with snd := S.snd - 1 } ∧ (∃ c', mp w' S.mb (n + 1) c' (updV (vals f) k (some (memV ⟨now, q.sent, false⟩)))) ∧ Two b S.mb w w' := by
  have hne := hs.ne hm
  have HB : Hid (Below w.heap.size w (w.alloc (.cells #[.int .u64 now.n, .int .i64 now.s, .pointer none] 48))) := (Below.refl _ w).alloc (Nat.le_refl _) _
  have hl := mp_look (mp_below hm HB.out (mp_lt hm)) Ybaz.underlying41 (Ybaz.zeroValue51 _) hk
  rw [show (vals f k).getD (.agg #[.int .u64 0, .int .i64 0, .pointer none, .int .u64 0, .int .i64 0, .pointer none, .bool false]) = memV q from by rw [← hq]; exact vals_getD f k] at hl
  have c5 : w.cell? ⟨b, 5, none⟩ = some (.map (some S.mb)) := cell_of hs
  have c6 : w.cell? ⟨b, 6, none⟩ = some (.int .i64 S.snd) := cell_of hs
  have f6 : w.frozen? ⟨b, 6, none⟩ = false := frozen_of hs
  have g0 : ¬ b = w.heap.size := by have := hs.lt; omega
  have g1 : ¬ b = w.heap.size + 1 := by have := hs.lt; omega
  have g2 : b < w.heap.size := hs.lt
  have HS : Hid (w.heap[b]? = some (.cells S.cells 58)) := hs
  have HM : Hid (mp w S.mb n c (vals f)) := hm
  have HN : Hid (b ≠ S.mb) := hne
  have HK : Hid (u32ok k) := hk
  clear hs hm hk hne hq
  unfold memV at hl
  rw [hb] at hl
  clear hb
  have E1 : IntKind.i64.wrap (S.snd - 1) = S.snd - 1 := by simp [IntKind.wrap, IntKind.bits, IntKind.signed]; omega
  have E2 : IntKind.i64.wrap (S.snd - 1 + 1) = S.snd - 1 + 1 := by simp [IntKind.wrap, IntKind.bits, IntKind.signed]; omega
  have E3 : IntKind.i64.wrap (S.snd + 1) = S.snd + 1 := by simp [IntKind.wrap, IntKind.bits, IntKind.signed]; omega
  unfold Tm.v tv
  go_enter Ybaz.func24, Ybaz.ntmps24
  go_wp2_with fail
  have hB2 : Below (w.setCell ⟨b, 6, none⟩ (.int .i64 (S.snd - 1))).heap.size (w.setCell ⟨b, 6, none⟩ (.int .i64 (S.snd - 1))) (((w.setCell ⟨b, 6, none⟩ (.int .i64 (S.snd - 1))).alloc (.cells #[.int .u64 now.n, .int .i64 now.s, .pointer none] 48)).alloc (.cells #[.int .u64 now.n, .int .i64 now.s, .pointer none, .int .u64 q.sent.n, .int .i64 q.sent.s, .pointer none, .bool false] 51)) := ((Below.refl _ _).alloc (Nat.le_refl _) _).alloc (by simp) _
  have hz0 : (w.setCell ⟨b, 6, none⟩ (.int .i64 (S.snd - 1))).heap.size = w.heap.size := by simp
  have hblk : (((w.setCell ⟨b, 6, none⟩ (.int .i64 (S.snd - 1))).alloc (.cells #[.int .u64 now.n, .int .i64 now.s, .pointer none] 48)).alloc (.cells #[.int .u64 now.n, .int .i64 now.s, .pointer none, .int .u64 q.sent.n, .int .i64 q.sent.s, .pointer none, .bool false] 51)).heap[b]? = some (.cells ({ S with snd := S.snd - 1 } : StV).cells 58) := by
    rw [hB2.block b (by rw [hz0]; exact g2), (heap_set HS.out (i := 6) (.int .i64 (S.snd - 1)))]
    simp [StV.cells]
  have hmW : mp (((w.setCell ⟨b, 6, none⟩ (.int .i64 (S.snd - 1))).alloc (.cells #[.int .u64 now.n, .int .i64 now.s, .pointer none] 48)).alloc (.cells #[.int .u64 now.n, .int .i64 now.s, .pointer none, .int .u64 q.sent.n, .int .i64 q.sent.s, .pointer none, .bool false] 51)).drew S.mb n c (vals f) := mp_block HM.out (show (((w.setCell ⟨b, 6, none⟩ (.int .i64 (S.snd - 1))).alloc (.cells #[.int .u64 now.n, .int .i64 now.s, .pointer none] 48)).alloc (.cells #[.int .u64 now.n, .int .i64 now.s, .pointer none, .int .u64 q.sent.n, .int .i64 q.sent.s, .pointer none, .bool false] 51)).heap[S.mb]? = _ from (hB2.block S.mb (by rw [hz0]; exact mp_lt HM.out)).trans (Below.heap_setCell _ _ _ _ (fun e => HN.out e.symm)))
  have htw : Two b S.mb w (((w.setCell ⟨b, 6, none⟩ (.int .i64 (S.snd - 1))).alloc (.cells #[.int .u64 now.n, .int .i64 now.s, .pointer none] 48)).alloc (.cells #[.int .u64 now.n, .int .i64 now.s, .pointer none, .int .u64 q.sent.n, .int .i64 q.sent.s, .pointer none, .bool false] 51)).drew := ((((Two.refl b S.mb w).setCell 6 _).alloc (.cells #[.int .u64 now.n, .int .i64 now.s, .pointer none] 48)).alloc (.cells #[.int .u64 now.n, .int .i64 now.s, .pointer none, .int .u64 q.sent.n, .int .i64 q.sent.s, .pointer none, .bool false] 51)).drew
  have d5 : (((w.setCell ⟨b, 6, none⟩ (.int .i64 (S.snd - 1))).alloc (.cells #[.int .u64 now.n, .int .i64 now.s, .pointer none] 48)).alloc (.cells #[.int .u64 now.n, .int .i64 now.s, .pointer none, .int .u64 q.sent.n, .int .i64 q.sent.s, .pointer none, .bool false] 51)).cell? ⟨b, 5, none⟩ = some (.map (some S.mb)) := cell_of hblk
  have m0 : (((w.setCell ⟨b, 6, none⟩ (.int .i64 (S.snd - 1))).alloc (.cells #[.int .u64 now.n, .int .i64 now.s, .pointer none] 48)).alloc (.cells #[.int .u64 now.n, .int .i64 now.s, .pointer none, .int .u64 q.sent.n, .int .i64 q.sent.s, .pointer none, .bool false] 51)).heap[w.heap.size + 1]? = some (.cells #[.int .u64 now.n, .int .i64 now.s, .pointer none, .int .u64 q.sent.n, .int .i64 q.sent.s, .pointer none, .bool false] 51) := by
    have h := (MapKept.heap_alloc ((w.setCell ⟨b, 6, none⟩ (.int .i64 (S.snd - 1))).alloc (.cells #[.int .u64 now.n, .int .i64 now.s, .pointer none] 48)) (.cells #[.int .u64 now.n, .int .i64 now.s, .pointer none, .int .u64 q.sent.n, .int .i64 q.sent.s, .pointer none, .bool false] 51)).1
    rw [World.size_alloc, hz0] at h
    exact h
  have hlt : S.mb < w.heap.size := mp_lt HM.out
  have hq6 : w.heap.size + 1 ≠ S.mb := by omega
  generalize (((w.setCell ⟨b, 6, none⟩ (.int .i64 (S.snd - 1))).alloc (.cells #[.int .u64 now.n, .int .i64 now.s, .pointer none] 48)).alloc (.cells #[.int .u64 now.n, .int .i64 now.s, .pointer none, .int .u64 q.sent.n, .int .i64 q.sent.s, .pointer none, .bool false] 51)) = W at hblk hmW htw d5 m0 ⊢
  obtain ⟨hrun, hmp, hturn⟩ := putW_run hmW hn HK.out (memV ⟨now, q.sent, false⟩)
  have HT : Hid _ := hturn
  have HW : Hid _ := htw
  have HP : Hid _ := hmp
  have HX : Hid _ := hblk
  have x0 : W.cell? ⟨w.heap.size + 1, 0, none⟩ = some (.int .u64 now.n) := cell_of m0
  have x1 : W.cell? ⟨w.heap.size + 1, 1, none⟩ = some (.int .i64 now.s) := cell_of m0
  have x2 : W.cell? ⟨w.heap.size + 1, 2, none⟩ = some (.pointer none) := cell_of m0
  have x3 : W.cell? ⟨w.heap.size + 1, 3, none⟩ = some (.int .u64 q.sent.n) := cell_of m0
  have x4 : W.cell? ⟨w.heap.size + 1, 4, none⟩ = some (.int .i64 q.sent.s) := cell_of m0
  have x5 : W.cell? ⟨w.heap.size + 1, 5, none⟩ = some (.pointer none) := cell_of m0
  have x6 : W.cell? ⟨w.heap.size + 1, 6, none⟩ = some (.bool false) := cell_of m0
  unfold memV at hrun HT HP
  have y5 : (putW W.drew S.mb k (.agg #[.int .u64 now.n, .int .i64 now.s, .pointer none, .int .u64 q.sent.n, .int .i64 q.sent.s, .pointer none, .bool false])).cell? ⟨b, 5, none⟩ = some (.map (some S.mb)) := (World.cell?_of_block (turned_other HT.out HN.out)).trans d5
  have y_0 : (putW W.drew S.mb k (.agg #[.int .u64 now.n, .int .i64 now.s, .pointer none, .int .u64 q.sent.n, .int .i64 q.sent.s, .pointer none, .bool false])).cell? ⟨w.heap.size + 1, 0, none⟩ = some (.int .u64 now.n) := (World.cell?_of_block (turned_other HT.out hq6)).trans x0
  have y_1 : (putW W.drew S.mb k (.agg #[.int .u64 now.n, .int .i64 now.s, .pointer none, .int .u64 q.sent.n, .int .i64 q.sent.s, .pointer none, .bool false])).cell? ⟨w.heap.size + 1, 1, none⟩ = some (.int .i64 now.s) := (World.cell?_of_block (turned_other HT.out hq6)).trans x1
  have y_2 : (putW W.drew S.mb k (.agg #[.int .u64 now.n, .int .i64 now.s, .pointer none, .int .u64 q.sent.n, .int .i64 q.sent.s, .pointer none, .bool false])).cell? ⟨w.heap.size + 1, 2, none⟩ = some (.pointer none) := (World.cell?_of_block (turned_other HT.out hq6)).trans x2
  have y_3 : (putW W.drew S.mb k (.agg #[.int .u64 now.n, .int .i64 now.s, .pointer none, .int .u64 q.sent.n, .int .i64 q.sent.s, .pointer none, .bool false])).cell? ⟨w.heap.size + 1, 3, none⟩ = some (.int .u64 q.sent.n) := (World.cell?_of_block (turned_other HT.out hq6)).trans x3
  have y_4 : (putW W.drew S.mb k (.agg #[.int .u64 now.n, .int .i64 now.s, .pointer none, .int .u64 q.sent.n, .int .i64 q.sent.s, .pointer none, .bool false])).cell? ⟨w.heap.size + 1, 4, none⟩ = some (.int .i64 q.sent.s) := (World.cell?_of_block (turned_other HT.out hq6)).trans x4
  have y_5 : (putW W.drew S.mb k (.agg #[.int .u64 now.n, .int .i64 now.s, .pointer none, .int .u64 q.sent.n, .int .i64 q.sent.s, .pointer none, .bool false])).cell? ⟨w.heap.size + 1, 5, none⟩ = some (.pointer none) := (World.cell?_of_block (turned_other HT.out hq6)).trans x5
  have y_6 : (putW W.drew S.mb k (.agg #[.int .u64 now.n, .int .i64 now.s, .pointer none, .int .u64 q.sent.n, .int .i64 q.sent.s, .pointer none, .bool false])).cell? ⟨w.heap.size + 1, 6, none⟩ = some (.bool false) := (World.cell?_of_block (turned_other HT.out hq6)).trans x6
  clear hq6 hlt hturn htw hmp hblk hB2 hz0 hl c5 c6 f6 g0 g1 g2 E1 E2 E3 hmW m0
  go_region_held3 (fun w' => w'.cell? ⟨b, 5, none⟩ = some (.map (some S.mb)) ∧ w'.cell? ⟨w.heap.size + 1, 0, none⟩ = some (.int .u64 now.n) ∧ w'.cell? ⟨w.heap.size + 1, 1, none⟩ = some (.int .i64 now.s) ∧ w'.cell? ⟨w.heap.size + 1, 2, none⟩ = some (.pointer none) ∧ w'.cell? ⟨w.heap.size + 1, 3, none⟩ = some (.int .u64 q.sent.n) ∧ w'.cell? ⟨w.heap.size + 1, 4, none⟩ = some (.int .i64 q.sent.s) ∧ w'.cell? ⟨w.heap.size + 1, 5, none⟩ = some (.pointer none) ∧ w'.cell? ⟨w.heap.size + 1, 6, none⟩ = some (.bool false)) (go_keep) (fail)
  all_goals go_wp2_with fail
  all_goals go_end0
  all_goals exact ⟨rfl, (turned_other HT.out HN.out).trans HX.out, HP.out, HW.out.turned HT.out⟩

set_option maxRecDepth 8000 in
set_option maxHeartbeats 1000000 in
theorem heard_ft (b n c : Nat) (S : StV) (k : Int) (now : Tm) (f : Ms) (q : Mem) (w : World) (hq : (f k).getD Mem.zero = q) (hb : q.sender = false) (hs : Stt w b S) (hm : mp w S.mb n c (vals f)) (hk : u32ok k) (hn : n < maxLen) (hs0 : -1000000 ≤ S.snd) (hs1 : S.snd ≤ 1000000) :
    Calls Ybaz.prog 24 #[.pointer (some ⟨b, 0, none⟩), .int .u32 k, now.v, .bool true] w fun e w' => e = .returned (.tuple #[]) ∧ Stt w' b { S with snd := S.snd + 1 } ∧ (∃ c', mp w' S.mb (n + 1) c' (updV (vals f) k (some (memV ⟨now, now, true⟩)))) ∧ Two b S.mb w w' := by
  have hne := hs.ne hm
  have HB : Hid (Below w.heap.size w (w.alloc (.cells #[.int .u64 now.n, .int .i64 now.s, .pointer none] 48))) := (Below.refl _ w).alloc (Nat.le_refl _) _
  have hl := mp_look (mp_below hm HB.out (mp_lt hm)) Ybaz.underlying41 (Ybaz.zeroValue51 _) hk
  rw [show (vals f k).getD (.agg #[.int .u64 0, .int .i64 0, .pointer none, .int .u64 0, .int .i64 0, .pointer none, .bool false]) = memV q from by rw [← hq]; exact vals_getD f k] at hl
  have c5 : w.cell? ⟨b, 5, none⟩ = some (.map (some S.mb)) := cell_of hs
  have c6 : w.cell? ⟨b, 6, none⟩ = some (.int .i64 S.snd) := cell_of hs
  have f6 : w.frozen? ⟨b, 6, none⟩ = false := frozen_of hs
  have g0 : ¬ b = w.heap.size := by have := hs.lt; omega
  have g1 : ¬ b = w.heap.size + 1 := by have := hs.lt; omega
  have g2 : b < w.heap.size := hs.lt
  have HS : Hid (w.heap[b]? = some (.cells S.cells 58)) := hs
  have HM : Hid (mp w S.mb n c (vals f)) := hm
  have HN : Hid (b ≠ S.mb) := hne
  have HK : Hid (u32ok k) := hk
  clear hs hm hk hne hq
  unfold memV at hl
  rw [hb] at hl
  clear hb
  have E1 : IntKind.i64.wrap (S.snd - 1) = S.snd - 1 := by simp [IntKind.wrap, IntKind.bits, IntKind.signed]; omega
  have E2 : IntKind.i64.wrap (S.snd - 1 + 1) = S.snd - 1 + 1 := by simp [IntKind.wrap, IntKind.bits, IntKind.signed]; omega
  have E3 : IntKind.i64.wrap (S.snd + 1) = S.snd + 1 := by simp [IntKind.wrap, IntKind.bits, IntKind.signed]; omega
  unfold Tm.v tv
  go_enter Ybaz.func24, Ybaz.ntmps24
  go_wp2_with fail
  have hB2 : Below (w.setCell ⟨b, 6, none⟩ (.int .i64 (S.snd + 1))).heap.size (w.setCell ⟨b, 6, none⟩ (.int .i64 (S.snd + 1))) (((w.setCell ⟨b, 6, none⟩ (.int .i64 (S.snd + 1))).alloc (.cells #[.int .u64 now.n, .int .i64 now.s, .pointer none] 48)).alloc (.cells #[.int .u64 now.n, .int .i64 now.s, .pointer none, .int .u64 now.n, .int .i64 now.s, .pointer none, .bool true] 51)) := ((Below.refl _ _).alloc (Nat.le_refl _) _).alloc (by simp) _
  have hz0 : (w.setCell ⟨b, 6, none⟩ (.int .i64 (S.snd + 1))).heap.size = w.heap.size := by simp
  have hblk : (((w.setCell ⟨b, 6, none⟩ (.int .i64 (S.snd + 1))).alloc (.cells #[.int .u64 now.n, .int .i64 now.s, .pointer none] 48)).alloc (.cells #[.int .u64 now.n, .int .i64 now.s, .pointer none, .int .u64 now.n, .int .i64 now.s, .pointer none, .bool true] 51)).heap[b]? = some (.cells ({ S with snd := S.snd + 1 } : StV).cells 58) := by
    rw [hB2.block b (by rw [hz0]; exact g2), (heap_set HS.out (i := 6) (.int .i64 (S.snd + 1)))]
    simp [StV.cells]
  have hmW : mp (((w.setCell ⟨b, 6, none⟩ (.int .i64 (S.snd + 1))).alloc (.cells #[.int .u64 now.n, .int .i64 now.s, .pointer none] 48)).alloc (.cells #[.int .u64 now.n, .int .i64 now.s, .pointer none, .int .u64 now.n, .int .i64 now.s, .pointer none, .bool true] 51)).drew S.mb n c (vals f) := mp_block HM.out (show (((w.setCell ⟨b, 6, none⟩ (.int .i64 (S.snd + 1))).alloc (.cells #[.int .u64 now.n, .int .i64 now.s, .pointer none] 48)).alloc (.cells #[.int .u64 now.n, .int .i64 now.s, .pointer none, .int .u64 now.n, .int .i64 now.s, .pointer none, .bool true] 51)).heap[S.mb]? = _ from (hB2.block S.mb (by rw [hz0]; exact mp_lt HM.out)).trans (Below.heap_setCell _ _ _ _ (fun e => HN.out e.symm)))
  have htw : Two b S.mb w (((w.setCell ⟨b, 6, none⟩ (.int .i64 (S.snd + 1))).alloc (.cells #[.int .u64 now.n, .int .i64 now.s, .pointer none] 48)).alloc (.cells #[.int .u64 now.n, .int .i64 now.s, .pointer none, .int .u64 now.n, .int .i64 now.s, .pointer none, .bool true] 51)).drew := ((((Two.refl b S.mb w).setCell 6 _).alloc (.cells #[.int .u64 now.n, .int .i64 now.s, .pointer none] 48)).alloc (.cells #[.int .u64 now.n, .int .i64 now.s, .pointer none, .int .u64 now.n, .int .i64 now.s, .pointer none, .bool true] 51)).drew
  have d5 : (((w.setCell ⟨b, 6, none⟩ (.int .i64 (S.snd + 1))).alloc (.cells #[.int .u64 now.n, .int .i64 now.s, .pointer none] 48)).alloc (.cells #[.int .u64 now.n, .int .i64 now.s, .pointer none, .int .u64 now.n, .int .i64 now.s, .pointer none, .bool true] 51)).cell? ⟨b, 5, none⟩ = some (.map (some S.mb)) := cell_of hblk
  have m0 : (((w.setCell ⟨b, 6, none⟩ (.int .i64 (S.snd + 1))).alloc (.cells #[.int .u64 now.n, .int .i64 now.s, .pointer none] 48)).alloc (.cells #[.int .u64 now.n, .int .i64 now.s, .pointer none, .int .u64 now.n, .int .i64 now.s, .pointer none, .bool true] 51)).heap[w.heap.size + 1]? = some (.cells #[.int .u64 now.n, .int .i64 now.s, .pointer none, .int .u64 now.n, .int .i64 now.s, .pointer none, .bool true] 51) := by
    have h := (MapKept.heap_alloc ((w.setCell ⟨b, 6, none⟩ (.int .i64 (S.snd + 1))).alloc (.cells #[.int .u64 now.n, .int .i64 now.s, .pointer none] 48)) (.cells #[.int .u64 now.n, .int .i64 now.s, .pointer none, .int .u64 now.n, .int .i64 now.s, .pointer none, .bool true] 51)).1
    rw [World.size_alloc, hz0] at h
    exact h
  have hlt : S.mb < w.heap.size := mp_lt HM.out
  have hq6 : w.heap.size + 1 ≠ S.mb := by omega
  generalize (((w.setCell ⟨b, 6, none⟩ (.int .i64 (S.snd + 1))).alloc (.cells #[.int .u64 now.n, .int .i64 now.s, .pointer none] 48)).alloc (.cells #[.int .u64 now.n, .int .i64 now.s, .pointer none, .int .u64 now.n, .int .i64 now.s, .pointer none, .bool true] 51)) = W at hblk hmW htw d5 m0 ⊢
  obtain ⟨hrun, hmp, hturn⟩ := putW_run hmW hn HK.out (memV ⟨now, now, true⟩)
  have HT : Hid _ := hturn
  have HW : Hid _ := htw
  have HP : Hid _ := hmp
  have HX : Hid _ := hblk
  have x0 : W.cell? ⟨w.heap.size + 1, 0, none⟩ = some (.int .u64 now.n) := cell_of m0
  have x1 : W.cell? ⟨w.heap.size + 1, 1, none⟩ = some (.int .i64 now.s) := cell_of m0
  have x2 : W.cell? ⟨w.heap.size + 1, 2, none⟩ = some (.pointer none) := cell_of m0
  have x3 : W.cell? ⟨w.heap.size + 1, 3, none⟩ = some (.int .u64 now.n) := cell_of m0
  have x4 : W.cell? ⟨w.heap.size + 1, 4, none⟩ = some (.int .i64 now.s) := cell_of m0
  have x5 : W.cell? ⟨w.heap.size + 1, 5, none⟩ = some (.pointer none) := cell_of m0
  have x6 : W.cell? ⟨w.heap.size + 1, 6, none⟩ = some (.bool true) := cell_of m0
  unfold memV at hrun HT HP
  have y5 : (putW W.drew S.mb k (.agg #[.int .u64 now.n, .int .i64 now.s, .pointer none, .int .u64 now.n, .int .i64 now.s, .pointer none, .bool true])).cell? ⟨b, 5, none⟩ = some (.map (some S.mb)) := (World.cell?_of_block (turned_other HT.out HN.out)).trans d5
  have y_0 : (putW W.drew S.mb k (.agg #[.int .u64 now.n, .int .i64 now.s, .pointer none, .int .u64 now.n, .int .i64 now.s, .pointer none, .bool true])).cell? ⟨w.heap.size + 1, 0, none⟩ = some (.int .u64 now.n) := (World.cell?_of_block (turned_other HT.out hq6)).trans x0
  have y_1 : (putW W.drew S.mb k (.agg #[.int .u64 now.n, .int .i64 now.s, .pointer none, .int .u64 now.n, .int .i64 now.s, .pointer none, .bool true])).cell? ⟨w.heap.size + 1, 1, none⟩ = some (.int .i64 now.s) := (World.cell?_of_block (turned_other HT.out hq6)).trans x1
  have y_2 : (putW W.drew S.mb k (.agg #[.int .u64 now.n, .int .i64 now.s, .pointer none, .int .u64 now.n, .int .i64 now.s, .pointer none, .bool true])).cell? ⟨w.heap.size + 1, 2, none⟩ = some (.pointer none) := (World.cell?_of_block (turned_other HT.out hq6)).trans x2
  have y_3 : (putW W.drew S.mb k (.agg #[.int .u64 now.n, .int .i64 now.s, .pointer none, .int .u64 now.n, .int .i64 now.s, .pointer none, .bool true])).cell? ⟨w.heap.size + 1, 3, none⟩ = some (.int .u64 now.n) := (World.cell?_of_block (turned_other HT.out hq6)).trans x3
  have y_4 : (putW W.drew S.mb k (.agg #[.int .u64 now.n, .int .i64 now.s, .pointer none, .int .u64 now.n, .int .i64 now.s, .pointer none, .bool true])).cell? ⟨w.heap.size + 1, 4, none⟩ = some (.int .i64 now.s) := (World.cell?_of_block (turned_other HT.out hq6)).trans x4
  have y_5 : (putW W.drew S.mb k (.agg #[.int .u64 now.n, .int .i64 now.s, .pointer none, .int .u64 now.n, .int .i64 now.s, .pointer none, .bool true])).cell? ⟨w.heap.size + 1, 5, none⟩ = some (.pointer none) := (World.cell?_of_block (turned_other HT.out hq6)).trans x5
  have y_6 : (putW W.drew S.mb k (.agg #[.int .u64 now.n, .int .i64 now.s, .pointer none, .int .u64 now.n, .int .i64 now.s, .pointer none, .bool true])).cell? ⟨w.heap.size + 1, 6, none⟩ = some (.bool true) := (World.cell?_of_block (turned_other HT.out hq6)).trans x6
  clear hq6 hlt hturn htw hmp hblk hB2 hz0 hl c5 c6 f6 g0 g1 g2 E1 E2 E3 hmW m0
  go_region_held3 (fun w' => w'.cell? ⟨b, 5, none⟩ = some (.map (some S.mb)) ∧ w'.cell? ⟨w.heap.size + 1, 0, none⟩ = some (.int .u64 now.n) ∧ w'.cell? ⟨w.heap.size + 1, 1, none⟩ = some (.int .i64 now.s) ∧ w'.cell? ⟨w.heap.size + 1, 2, none⟩ = some (.pointer none) ∧ w'.cell? ⟨w.heap.size + 1, 3, none⟩ = some (.int .u64 now.n) ∧ w'.cell? ⟨w.heap.size + 1, 4, none⟩ = some (.int .i64 now.s) ∧ w'.cell? ⟨w.heap.size + 1, 5, none⟩ = some (.pointer none) ∧ w'.cell? ⟨w.heap.size + 1, 6, none⟩ = some (.bool true)) (go_keep) (fail)
  all_goals go_wp2_with fail
  all_goals go_end0
  all_goals exact ⟨rfl, (turned_other HT.out HN.out).trans HX.out, HP.out, HW.out.turned HT.out⟩

set_option maxRecDepth 8000 in
set_option maxHeartbeats 1000000 in
theorem heard_ff (b n c : Nat) (S : StV) (k : Int) (now : Tm) (f : Ms) (q : Mem) (w : World) (hq : (f k).getD Mem.zero = q) (hb : q.sender = false) (hs : Stt w b S) (hm : mp w S.mb n c (vals f)) (hk : u32ok k) (hn : n < maxLen) (hs0 : -1000000 ≤ S.snd) (hs1 : S.snd ≤ 1000000) :
    Calls Ybaz.prog 24 #[.pointer (some ⟨b, 0, none⟩), .int .u32 k, now.v, .bool false] w fun e w' => e = .returned (.tuple #[]) ∧ Stt w' b { S with snd := S.snd } ∧ (∃ c', mp w' S.mb (n + 1) c' (updV (vals f) k (some (memV ⟨now, q.sent, false⟩)))) ∧ Two b S.mb w w' := by
  have hne := hs.ne hm
  have HB : Hid (Below w.heap.size w (w.alloc (.cells #[.int .u64 now.n, .int .i64 now.s, .pointer none] 48))) := (Below.refl _ w).alloc (Nat.le_refl _) _
  have hl := mp_look (mp_below hm HB.out (mp_lt hm)) Ybaz.underlying41 (Ybaz.zeroValue51 _) hk
  rw [show (vals f k).getD (.agg #[.int .u64 0, .int .i64 0, .pointer none, .int .u64 0, .int .i64 0, .pointer none, .bool false]) = memV q from by rw [← hq]; exact vals_getD f k] at hl
  have c5 : w.cell? ⟨b, 5, none⟩ = some (.map (some S.mb)) := cell_of hs
  have c6 : w.cell? ⟨b, 6, none⟩ = some (.int .i64 S.snd) := cell_of hs
  have f6 : w.frozen? ⟨b, 6, none⟩ = false := frozen_of hs
  have g0 : ¬ b = w.heap.size := by have := hs.lt; omega
  have g1 : ¬ b = w.heap.size + 1 := by have := hs.lt; omega
  have g2 : b < w.heap.size := hs.lt
  have HS : Hid (w.heap[b]? = some (.cells S.cells 58)) := hs
  have HM : Hid (mp w S.mb n c (vals f)) := hm
  have HN : Hid (b ≠ S.mb) := hne
  have HK : Hid (u32ok k) := hk
  clear hs hm hk hne hq
  unfold memV at hl
  rw [hb] at hl
  clear hb
  have E1 : IntKind.i64.wrap (S.snd - 1) = S.snd - 1 := by simp [IntKind.wrap, IntKind.bits, IntKind.signed]; omega
  have E2 : IntKind.i64.wrap (S.snd - 1 + 1) = S.snd - 1 + 1 := by simp [IntKind.wrap, IntKind.bits, IntKind.signed]; omega
  have E3 : IntKind.i64.wrap (S.snd + 1) = S.snd + 1 := by simp [IntKind.wrap, IntKind.bits, IntKind.signed]; omega
  unfold Tm.v tv
  go_enter Ybaz.func24, Ybaz.ntmps24
  go_wp2_with fail
  have hB2 : Below w.heap.size w ((w.alloc (.cells #[.int .u64 now.n, .int .i64 now.s, .pointer none] 48)).alloc (.cells #[.int .u64 now.n, .int .i64 now.s, .pointer none, .int .u64 q.sent.n, .int .i64 q.sent.s, .pointer none, .bool false] 51)) := ((Below.refl _ _).alloc (Nat.le_refl _) _).alloc (by simp) _
  have hz0 : w.heap.size = w.heap.size := by simp
  have hblk : ((w.alloc (.cells #[.int .u64 now.n, .int .i64 now.s, .pointer none] 48)).alloc (.cells #[.int .u64 now.n, .int .i64 now.s, .pointer none, .int .u64 q.sent.n, .int .i64 q.sent.s, .pointer none, .bool false] 51)).heap[b]? = some (.cells ({ S with snd := S.snd } : StV).cells 58) := by
    rw [hB2.block b (by rw [hz0]; exact g2), HS.out]

  have hmW : mp ((w.alloc (.cells #[.int .u64 now.n, .int .i64 now.s, .pointer none] 48)).alloc (.cells #[.int .u64 now.n, .int .i64 now.s, .pointer none, .int .u64 q.sent.n, .int .i64 q.sent.s, .pointer none, .bool false] 51)).drew S.mb n c (vals f) := mp_block HM.out (show ((w.alloc (.cells #[.int .u64 now.n, .int .i64 now.s, .pointer none] 48)).alloc (.cells #[.int .u64 now.n, .int .i64 now.s, .pointer none, .int .u64 q.sent.n, .int .i64 q.sent.s, .pointer none, .bool false] 51)).heap[S.mb]? = _ from (hB2.block S.mb (by rw [hz0]; exact mp_lt HM.out)).trans rfl)
  have htw : Two b S.mb w ((w.alloc (.cells #[.int .u64 now.n, .int .i64 now.s, .pointer none] 48)).alloc (.cells #[.int .u64 now.n, .int .i64 now.s, .pointer none, .int .u64 q.sent.n, .int .i64 q.sent.s, .pointer none, .bool false] 51)).drew := (((Two.refl b S.mb w).alloc (.cells #[.int .u64 now.n, .int .i64 now.s, .pointer none] 48)).alloc (.cells #[.int .u64 now.n, .int .i64 now.s, .pointer none, .int .u64 q.sent.n, .int .i64 q.sent.s, .pointer none, .bool false] 51)).drew
  have d5 : ((w.alloc (.cells #[.int .u64 now.n, .int .i64 now.s, .pointer none] 48)).alloc (.cells #[.int .u64 now.n, .int .i64 now.s, .pointer none, .int .u64 q.sent.n, .int .i64 q.sent.s, .pointer none, .bool false] 51)).cell? ⟨b, 5, none⟩ = some (.map (some S.mb)) := cell_of hblk
  have m0 : ((w.alloc (.cells #[.int .u64 now.n, .int .i64 now.s, .pointer none] 48)).alloc (.cells #[.int .u64 now.n, .int .i64 now.s, .pointer none, .int .u64 q.sent.n, .int .i64 q.sent.s, .pointer none, .bool false] 51)).heap[w.heap.size + 1]? = some (.cells #[.int .u64 now.n, .int .i64 now.s, .pointer none, .int .u64 q.sent.n, .int .i64 q.sent.s, .pointer none, .bool false] 51) := by
    have h := (MapKept.heap_alloc (w.alloc (.cells #[.int .u64 now.n, .int .i64 now.s, .pointer none] 48)) (.cells #[.int .u64 now.n, .int .i64 now.s, .pointer none, .int .u64 q.sent.n, .int .i64 q.sent.s, .pointer none, .bool false] 51)).1
    rw [World.size_alloc, hz0] at h
    exact h
  have hlt : S.mb < w.heap.size := mp_lt HM.out
  have hq6 : w.heap.size + 1 ≠ S.mb := by omega
  generalize ((w.alloc (.cells #[.int .u64 now.n, .int .i64 now.s, .pointer none] 48)).alloc (.cells #[.int .u64 now.n, .int .i64 now.s, .pointer none, .int .u64 q.sent.n, .int .i64 q.sent.s, .pointer none, .bool false] 51)) = W at hblk hmW htw d5 m0 ⊢
  obtain ⟨hrun, hmp, hturn⟩ := putW_run hmW hn HK.out (memV ⟨now, q.sent, false⟩)
  have HT : Hid _ := hturn
  have HW : Hid _ := htw
  have HP : Hid _ := hmp
  have HX : Hid _ := hblk
  have x0 : W.cell? ⟨w.heap.size + 1, 0, none⟩ = some (.int .u64 now.n) := cell_of m0
  have x1 : W.cell? ⟨w.heap.size + 1, 1, none⟩ = some (.int .i64 now.s) := cell_of m0
  have x2 : W.cell? ⟨w.heap.size + 1, 2, none⟩ = some (.pointer none) := cell_of m0
  have x3 : W.cell? ⟨w.heap.size + 1, 3, none⟩ = some (.int .u64 q.sent.n) := cell_of m0
  have x4 : W.cell? ⟨w.heap.size + 1, 4, none⟩ = some (.int .i64 q.sent.s) := cell_of m0
  have x5 : W.cell? ⟨w.heap.size + 1, 5, none⟩ = some (.pointer none) := cell_of m0
  have x6 : W.cell? ⟨w.heap.size + 1, 6, none⟩ = some (.bool false) := cell_of m0
  unfold memV at hrun HT HP
  have y5 : (putW W.drew S.mb k (.agg #[.int .u64 now.n, .int .i64 now.s, .pointer none, .int .u64 q.sent.n, .int .i64 q.sent.s, .pointer none, .bool false])).cell? ⟨b, 5, none⟩ = some (.map (some S.mb)) := (World.cell?_of_block (turned_other HT.out HN.out)).trans d5
  have y_0 : (putW W.drew S.mb k (.agg #[.int .u64 now.n, .int .i64 now.s, .pointer none, .int .u64 q.sent.n, .int .i64 q.sent.s, .pointer none, .bool false])).cell? ⟨w.heap.size + 1, 0, none⟩ = some (.int .u64 now.n) := (World.cell?_of_block (turned_other HT.out hq6)).trans x0
  have y_1 : (putW W.drew S.mb k (.agg #[.int .u64 now.n, .int .i64 now.s, .pointer none, .int .u64 q.sent.n, .int .i64 q.sent.s, .pointer none, .bool false])).cell? ⟨w.heap.size + 1, 1, none⟩ = some (.int .i64 now.s) := (World.cell?_of_block (turned_other HT.out hq6)).trans x1
  have y_2 : (putW W.drew S.mb k (.agg #[.int .u64 now.n, .int .i64 now.s, .pointer none, .int .u64 q.sent.n, .int .i64 q.sent.s, .pointer none, .bool false])).cell? ⟨w.heap.size + 1, 2, none⟩ = some (.pointer none) := (World.cell?_of_block (turned_other HT.out hq6)).trans x2
  have y_3 : (putW W.drew S.mb k (.agg #[.int .u64 now.n, .int .i64 now.s, .pointer none, .int .u64 q.sent.n, .int .i64 q.sent.s, .pointer none, .bool false])).cell? ⟨w.heap.size + 1, 3, none⟩ = some (.int .u64 q.sent.n) := (World.cell?_of_block (turned_other HT.out hq6)).trans x3
  have y_4 : (putW W.drew S.mb k (.agg #[.int .u64 now.n, .int .i64 now.s, .pointer none, .int .u64 q.sent.n, .int .i64 q.sent.s, .pointer none, .bool false])).cell? ⟨w.heap.size + 1, 4, none⟩ = some (.int .i64 q.sent.s) := (World.cell?_of_block (turned_other HT.out hq6)).trans x4
  have y_5 : (putW W.drew S.mb k (.agg #[.int .u64 now.n, .int .i64 now.s, .pointer none, .int .u64 q.sent.n, .int .i64 q.sent.s, .pointer none, .bool false])).cell? ⟨w.heap.size + 1, 5, none⟩ = some (.pointer none) := (World.cell?_of_block (turned_other HT.out hq6)).trans x5
  have y_6 : (putW W.drew S.mb k (.agg #[.int .u64 now.n, .int .i64 now.s, .pointer none, .int .u64 q.sent.n, .int .i64 q.sent.s, .pointer none, .bool false])).cell? ⟨w.heap.size + 1, 6, none⟩ = some (.bool false) := (World.cell?_of_block (turned_other HT.out hq6)).trans x6
  clear hq6 hlt hturn htw hmp hblk hB2 hz0 hl c5 c6 f6 g0 g1 g2 E1 E2 E3 hmW m0
  go_region_held3 (fun w' => w'.cell? ⟨b, 5, none⟩ = some (.map (some S.mb)) ∧ w'.cell? ⟨w.heap.size + 1, 0, none⟩ = some (.int .u64 now.n) ∧ w'.cell? ⟨w.heap.size + 1, 1, none⟩ = some (.int .i64 now.s) ∧ w'.cell? ⟨w.heap.size + 1, 2, none⟩ = some (.pointer none) ∧ w'.cell? ⟨w.heap.size + 1, 3, none⟩ = some (.int .u64 q.sent.n) ∧ w'.cell? ⟨w.heap.size + 1, 4, none⟩ = some (.int .i64 q.sent.s) ∧ w'.cell? ⟨w.heap.size + 1, 5, none⟩ = some (.pointer none) ∧ w'.cell? ⟨w.heap.size + 1, 6, none⟩ = some (.bool false)) (go_keep) (fail)
  all_goals go_wp2_with fail
  all_goals go_end0
  all_goals exact ⟨rfl, (turned_other HT.out HN.out).trans HX.out, HP.out, HW.out.turned HT.out⟩

theorem hear_vals (now : Tm) (snd : Bool) (f : Ms) (k : Int) : updV (vals f) k (some (memV ⟨now, if snd then now else sentOf (f k), snd⟩)) = vals (hear now snd f k) :=
  vals_upd f k (some ⟨now, if snd then now else sentOf (f k), snd⟩)

theorem heard_any (b n c : Nat) (S : StV) (k : Int) (now : Tm) (snd : Bool) (f : Ms) (w : World) (hs : Stt w b S) (hm : mp w S.mb n c (vals f)) (hk : u32ok k) (hn : n < maxLen) (hs0 : -1000000 ≤ S.snd) (hs1 : S.snd ≤ 1000000) :
    Calls Ybaz.prog 24 #[.pointer (some ⟨b, 0, none⟩), .int .u32 k, now.v, .bool snd] w fun e w' => e = .returned (.tuple #[]) ∧ Stt w' b { S with snd := S.snd - (sends (f k)).toNat + snd.toNat } ∧ (∃ c', mp w' S.mb (n + 1) c' (vals (hear now snd f k))) ∧ Two b S.mb w w' := by
  rw [← hear_vals]
  have hq : sends (f k) = ((f k).getD Mem.zero).sender := rfl
  rw [hq]
  cases snd
  · cases hb : ((f k).getD Mem.zero).sender
    · have := heard_ff b n c S k now f _ w rfl hb hs hm hk hn hs0 hs1
      simpa [sentOf] using this
    · have := heard_tf b n c S k now f _ w rfl hb hs hm hk hn hs0 hs1
      simpa [sentOf] using this
  · cases hb : ((f k).getD Mem.zero).sender
    · have := heard_ft b n c S k now f _ w rfl hb hs hm hk hn hs0 hs1
      simpa [sentOf] using this
    · have := heard_tt b n c S k now f _ w rfl hb hs hm hk hn hs0 hs1
      simpa [sentOf] using this
end Go.Proofs.YbulkdsruGreatDoor
