import Derived.Test.YbulkdsruGreatDoorSt
import Derived.WalkKit
namespace Go.Proofs.YbulkdsruGreatDoor
open Go.RowKit Go.Op
set_option linter.unusedVariables false
set_option linter.unusedSimpArgs false

theorem wpList_delete_mp (w : World) {ops : Array Oper} {rest : List Oper} {o : Oper} {a : Act} {Q : Exit → Act → World → Prop} (hg : o.guard = none) (m x : Operand) (t e : TypeId) (hop : o.op = Op.call { callee := Callee.builtin Builtin.delete, args := #[m, x], argTypes := #[t, 24] })
    (ht : Ybaz.prog.underlying t = some (.map 24 e)) (b n c : Nat) (f : Int → Option Value)
    (hm : a.eval m = .map (some b)) (hown : mp w b n c f) (k : Int) (hx : a.eval x = .int .u32 k) (hk : u32ok k)
    (hK : ∀ w', (∃ c', mp w' b n c' (updV f k none)) → w.mapTurned w' b → wpList Ybaz.prog ops Q rest (a.put o.dst (.tuple #[])) w') :
    wpList Ybaz.prog ops Q (o :: rest) a w := by
  refine wpList_plain hg fun K' hK' => ?_
  obtain ⟨w', hrun, r1, r2⟩ := mp_drop hown ht hk o.type
  unfold Oper.wp
  simp [execOp, hop, resolve, invoke, builtin, hm, hx, hrun, Result.andThen]
  exact hK' _ _ (hK w' r1 r2)

theorem field_sender (w : World) (x0 x1 x2 x3 x4 x5 : Value) (s : Bool) : (Instr.field 51 (.agg #[x0, x1, x2, x3, x4, x5, .bool s]) 2).run Ybaz.prog w = .ok (.bool s) w := by
  have u := run_underlying Ybaz.underlying51 w
  unfold Instr.field
  simp [u, Result.andThen, part, go_sem, asAgg]

theorem Stt.ne {w : World} {b : Nat} {S : StV} (h : Stt w b S) {m n c : Nat} {f : Int → Option Value} (hm : mp w m n c f) : b ≠ m := by
  rintro rfl
  obtain ⟨D, ⟨es, clock, hb, _⟩, _⟩ := hm
  unfold Stt at h
  rw [h] at hb
  cases hb

theorem leave_vals (f : Ms) (k : Int) : updV (vals f) k none = vals (leave f k) := vals_upd f k none

set_option maxRecDepth 8000 in
set_option maxHeartbeats 1000000 in
theorem left_any (b n c : Nat) (S : StV) (k : Int) (f : Ms) (w : World) (hs : Stt w b S) (hm : mp w S.mb n c (vals f)) (hk : u32ok k) (hs0 : -1000000 ≤ S.snd) (hs1 : S.snd ≤ 1000000) :
    Calls Ybaz.prog 29 #[.pointer (some ⟨b, 0, none⟩), .int .u32 k] w fun e w' => e = .returned (.tuple #[]) ∧ Stt w' b { S with snd := S.snd - (sends (f k)).toNat } ∧ (∃ c', mp w' S.mb n c' (vals (leave f k))) ∧ Two b S.mb w w' := by
  have hne := hs.ne hm
  have hl := mp_look hm Ybaz.underlying41 (Ybaz.zeroValue51 w) hk
  have e0 : ∀ v, (vals f k).getD (.agg #[.int .u64 0, .int .i64 0, .pointer none, .int .u64 0, .int .i64 0, .pointer none, .bool false]) = v ↔ memV ((f k).getD Mem.zero) = v := fun v => by rw [← vals_getD]; rfl
  rw [show (vals f k).getD (.agg #[.int .u64 0, .int .i64 0, .pointer none, .int .u64 0, .int .i64 0, .pointer none, .bool false]) = memV ((f k).getD Mem.zero) from vals_getD f k] at hl
  clear e0
  have c5 : w.cell? ⟨b, 5, none⟩ = some (.map (some S.mb)) := cell_of hs
  have c6 : w.cell? ⟨b, 6, none⟩ = some (.int .i64 S.snd) := cell_of hs
  have f6 : w.frozen? ⟨b, 6, none⟩ = false := frozen_of hs
  have hfd := field_sender
  have HS : Hid _ := hs
  have HM : Hid _ := hm
  have HN : Hid _ := hne
  have HK : Hid _ := hk
  clear hs hm hk hne
  obtain ⟨q, hq⟩ : ∃ q, (f k).getD Mem.zero = q := ⟨_, rfl⟩
  have HQ : Hid (sends (f k) = q.sender) := by show ((f k).getD Mem.zero).sender = _; rw [hq]
  rw [hq] at hl
  clear hq
  unfold memV at hl
  have E1 : IntKind.i64.wrap (S.snd - 1) = S.snd - 1 := by simp [IntKind.wrap, IntKind.bits, IntKind.signed]; omega
  cases hb : q.sender
  · rw [hb] at hl HQ
    clear hb
    go_enter Ybaz.func29, Ybaz.ntmps29
    go_wp2_with (at_delete; refine wpList_delete_mp _ rfl _ _ 41 51 rfl Ybaz.underlying41 S.mb n c (vals f) rfl HM.out k rfl HK.out ?_; intro w1 hm1 ht1)
    go_end0
    refine ⟨rfl, ?_, ?_, (Two.refl _ _ _).turned ht1⟩
    · rw [HQ.out]
      show w1.heap[b]? = _
      rw [turned_other ht1 HN.out, HS.out]
      simp [StV.cells]
    · rw [leave_vals] at hm1; exact hm1
  · rw [hb] at hl HQ
    clear hb
    have HM2 : Hid (mp (w.setCell ⟨b, 6, none⟩ (.int .i64 (S.snd - 1))) S.mb n c (vals f)) := mp_block HM.out (Below.heap_setCell _ _ _ _ (fun e => HN.out e.symm))
    have HS2 := heap_set HS.out (i := 6) (.int .i64 (S.snd - 1))
    go_enter Ybaz.func29, Ybaz.ntmps29
    go_wp2_with (at_delete; refine wpList_delete_mp _ rfl _ _ 41 51 rfl Ybaz.underlying41 S.mb n c (vals f) rfl HM2.out k rfl HK.out ?_; intro w1 hm1 ht1)
    go_end0
    refine ⟨rfl, ?_, ?_, ((Two.refl _ _ _).setCell _ _).turned ht1⟩
    · rw [HQ.out]
      show w1.heap[b]? = _
      rw [turned_other ht1 HN.out, HS2]
      simp [StV.cells]
    · rw [leave_vals] at hm1; exact hm1
end Go.Proofs.YbulkdsruGreatDoor
