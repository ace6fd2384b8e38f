import Derived.Test.YbulkdsruWalkC
import Derived.ChangeKeysEq
import Derived.Deep.OwnRows
namespace Go.Proofs.Ybulkdsru
open Go.RowKit
set_option linter.unusedVariables false

theorem eqnil (w : World) (a : Option Addr) (n c : Nat) : (binOp .eql 22 (.slice a n c) (.slice none 0 0)).run Yba.prog w = .ok (.bool a.isNone) w := Lib.run_eql_slice_nil w 22 3 a n c 0 0 Yba.underlying22
theorem neqnil (w : World) (a : Option Addr) (n c : Nat) : (binOp .neq 22 (.slice a n c) (.slice none 0 0)).run Yba.prog w = .ok (.bool (!a.isNone)) w := run_neq_slice_nil_any w 22 3 a n c 0 0 Yba.underlying22

theorem Yba.cells3 : Yba.prog.cellsOf 3 = 1 := by kernel_rfl
theorem eqarr (w : World) (a b c : Int) : (Op.equalIn 9999 23 (.agg #[.int .i64 a, .int .i64 b, .int .i64 c]) (.agg #[.int .i64 a, .int .i64 b, .int .i64 c])).run Yba.prog w = .ok true w := by
  obtain ⟨i, hi, _, _, _⟩ := info_parts Yba.info3
  rw [run_equalIn_array w 9998 _ _ Yba.underlying23 hi, Yba.cells3]
  simp [List.range, List.range.loop, Op.eqItems, go_sem]
  done

set_option maxHeartbeats 400000 in
theorem law_long (nm fm : ByteArray) (a : Option Addr) (len cap : Nat) (w : World) (hl : 1048576 < len) (hm : len ≤ maxLen) :
    Calls Yba.prog 3 #[.string nm, .string fm, .slice a len cap] w fun e w' => e = .returned (.bool true) ∧ Below w.heap.size w w' := by
  unfold maxLen at hm
  go_enter Yba.func3, Yba.ntmps3
  go_wp2
  go_ret
  exact ⟨rfl, Below.refl _ _⟩

set_option maxHeartbeats 800000 in
theorem law_nil (nm fm : ByteArray) (w : World) :
    Calls Yba.prog 3 #[.string nm, .string fm, .slice none 0 0] w fun e w' => e = .returned (.bool true) ∧ Below w.heap.size w w' := by
  have e1 := eqnil
  have e2 := neqnil
  have e3 := eqarr
  have H : Hid (IsRow .i64 w none 0 0 []) := Or.inl ⟨rfl, rfl, rfl, rfl⟩
  go_enter Yba.func3, Yba.ntmps3
  go_wp2_with fail
  refine (named_any _ _ _ _ _ [] _ H.out).mono ?_
  rintro e w1 ⟨rfl, hb⟩
  have t0 : nth [] 0 0 = 0 := rfl
  have t1 : nth [] 0 1 = 0 := rfl
  have t2 : nth [] 0 2 = 0 := rfl
  rw [t0, t1, t2]
  clear t0 t1 t2
  go_wp2
  refine wp_loop_rounds 1 ?_
  rw [rounds_succ]
  go_wp2
  refine wp_loop_rounds 1 ?_
  rw [rounds_succ]
  go_wp2
  go_ret
  exact ⟨rfl, (hb.alloc hb.size _).alloc (by have := hb.size; simp; omega) _⟩

set_option maxHeartbeats 800000 in
theorem law_empty (nm fm : ByteArray) (x : Addr) (cap : Nat) (zs : List Int) (w : World) (hr : IsRow .i64 w (some x) 0 cap zs) :
    Calls Yba.prog 3 #[.string nm, .string fm, .slice (some x) 0 cap] w fun e w' => e = .returned (.bool true) ∧ Below w.heap.size w w' := by
  have e1 := eqnil
  have e2 := neqnil
  have e3 := eqarr
  have hmk := fun w => run_make_row' (P := Yba.prog) 22 3 (.int .i64 0) 8 Yba.underlying22 Yba.info3 rfl .i64 .i64 0 (by omega) (by omega) w
  simp only [Int.natCast_zero] at hmk
  have H : Hid (IsRow .i64 w (some x) 0 cap zs) := hr
  clear hr
  go_enter Yba.func3, Yba.ntmps3
  go_wp2
  refine wp_loop_rounds 1 ?_
  rw [rounds_succ]
  go_wp2_with fail
  refine (named_any _ _ _ _ _ zs _ (H.out.later ((Below.refl _ _).alloc (Nat.le_refl _) _))).mono ?_
  rintro e w1 ⟨rfl, hb⟩
  have t0 : nth zs 0 0 = 0 := rfl
  have t1 : nth zs 0 1 = 0 := rfl
  have t2 : nth zs 0 2 = 0 := rfl
  rw [t0, t1, t2]
  clear t0 t1 t2
  have hB : Below w.heap.size w w1 := ((Below.refl _ _).alloc (Nat.le_refl _) _).trans (hb.mono (by simp))
  clear hb
  go_wp2
  refine wp_loop_rounds 1 ?_
  rw [rounds_succ]
  go_wp2
  refine wp_loop_rounds 1 ?_
  rw [rounds_succ]
  go_wp2
  go_ret
  exact ⟨rfl, (hB.alloc hB.size _).alloc (by have := hB.size; simp; omega) _⟩

/-- Behind k rounds of the copying loop: the row at block B holds the first k numbers, then zeros. -/
structure Cpy (B len : Nat) (zs : List Int) (k : Nat) (w wr : World) : Prop where
  cell : ∀ j, j < len → wr.cell? ⟨B, j, none⟩ = some (.int .i64 (if j < k then zs[j]?.getD 0 else 0))
  free : ∀ j, wr.frozen? ⟨B, j, none⟩ = false
  bel : Below B w wr
  size : B < wr.heap.size

theorem Cpy.start (w : World) (len : Nat) (zs : List Int) : Cpy w.heap.size len zs 0 w (w.alloc (.cells (madeCells #[.int .i64 0] len) 3)) := by
  refine ⟨fun j hj => ?_, fun j => ?_, (Below.refl _ _).alloc (Nat.le_refl _) _, by simp⟩
  · rw [World.cell?_alloc_at _ _ _ _ rfl, ← Array.getElem?_toList, toList_madeCells_one]
    simp [hj]
  · simp [go_sem]

theorem Cpy.step {B len : Nat} {zs : List Int} {k : Nat} {w wr : World} (h : Cpy B len zs k w wr) (hk : k < len) : Cpy B len zs (k + 1) w (wr.setCell ⟨B, k, none⟩ (.int .i64 (zs[k]?.getD 0))) := by
  refine ⟨fun j hj => ?_, fun j => by rw [World.frozen?_setCell]; exact h.free j, h.bel.setCell (Nat.le_refl _) _, by simpa [World.setCell] using h.size⟩
  by_cases e : j = k
  · subst e
    rw [World.cell?_setCell_same _ _ _ (h.cell j hj)]
    simp
  · rw [World.cell?_setCell_other _ _ _ _ (show (⟨B, k, none⟩ : Addr) ≠ ⟨B, j, none⟩ by intro h; cases h; exact e rfl), h.cell j hj]
    have : (j < k + 1) ↔ (j < k) := by omega
    simp [this]

set_option maxHeartbeats 1000000 in
theorem law_some (nm fm : ByteArray) (b off len cap : Nat) (zs : List Int) (w : World) (hl0 : 0 < len) (hl : len ≤ 1048576) (hr : IsRow .i64 w (some ⟨b, off, none⟩) len cap zs)
    (hb : b < w.heap.size) (hc : ∀ j, j < len → w.cell? ⟨b, off + j, none⟩ = some (.int .i64 (zs[j]?.getD 0))) :
    Calls Yba.prog 3 #[.string nm, .string fm, .slice (some ⟨b, off, none⟩) len cap] w fun e w' => e = .returned (.bool true) ∧ Below w.heap.size w w' := by
  have e1 := eqnil
  have e2 := neqnil
  have e3 := eqarr
  have hmk := fun w => run_make_row' (P := Yba.prog) 22 3 (.int .i64 0) 8 Yba.underlying22 Yba.info3 rfl .i64 .i64 len (by omega) (by omega) w
  have H : Hid (IsRow .i64 w (some ⟨b, off, none⟩) len cap zs) := hr
  have HC : Hid (∀ j, j < len → w.cell? ⟨b, off + j, none⟩ = some (.int .i64 (zs[j]?.getD 0))) := hc
  have hlen : ¬ (1048576 : Int) < (len : Int) := by omega
  clear hr hc
  go_enter Yba.func3, Yba.ntmps3
  go_wp2
  go_loopw [8] (fun i wr => ∃ k : Nat, k ≤ len ∧ i = .int .i64 k ∧ Cpy w.heap.size len zs k w wr) (fun i _ => len - (intOf i).toNat)
  case atStart => exact ⟨0, Nat.zero_le _, rfl, Cpy.start w len zs⟩
  case round =>
    obtain ⟨k, hk, rfl, hcp⟩ := hrel
    have hz := hcp.size
    by_cases hlt : k < len
    · have ha : wr.cell? ⟨b, off + k, none⟩ = some (.int .i64 (zs[k]?.getD 0)) := (hcp.bel.cell (p := ⟨b, off + k, none⟩) hb).trans (HC.out k hlt)
      have hd := hcp.cell k hlt
      have hf := hcp.free k
      have st := hcp.step hlt
      have ST : Hid (Cpy w.heap.size len zs (k + 1) w (wr.setCell ⟨w.heap.size, k, none⟩ (.int .i64 (zs[k]?.getD 0)))) := st
      clear st hcp
      go_wp2
      go_roundw
      case rel => exact ⟨k + 1, by omega, by go_num, ST.out⟩
      case measure => simp [intOf]; omega
    · obtain rfl : k = len := by omega
      have hB : Hid (Below w.heap.size w wr) := hcp.bel
      have hX : Hid (∀ j, j < k → wr.cell? ⟨w.heap.size, j, none⟩ = some (.int .i64 (zs[j]?.getD 0))) := fun j hj => by rw [hcp.cell j hj, if_pos hj]
      clear hcp
      go_wp2_with fail
      refine (named_any _ _ _ _ _ zs _ (H.out.later hB.out)).mono ?_
      rintro e w3 ⟨rfl, hb3⟩
      have hB3 : Hid (Below w.heap.size w w3) := hB.out.trans (hb3.mono (by omega))
      have hX3 : Hid (∀ j, j < k → w3.cell? ⟨w.heap.size, j, none⟩ = some (.int .i64 (zs[j]?.getD 0))) := fun j hj => (hb3.cell (p := ⟨w.heap.size, j, none⟩) hz).trans (hX.out j hj)
      have hz3 : w.heap.size < w3.heap.size := by have := hb3.size; omega
      clear hb3 hX hB
      go_wp2
      go_loopw [11] (fun i wr2 => ∃ m : Nat, m ≤ k ∧ m ≤ 3 ∧ i = .int .i64 m ∧ wr2 = (w3.alloc (.cells #[.string ⟨#[]⟩, .int .i64 0, .int .i64 0, .string fm, .string nm, .int .i64 (nth zs k 0), .int .i64 (nth zs k 1), .int .i64 (nth zs k 2), .int .i64 k] 25)).alloc (.cells #[.string ⟨#[]⟩, .int .i64 0, .int .i64 0, .string fm, .string nm, .int .i64 (nth zs m 0), .int .i64 (nth zs m 1), .int .i64 (nth zs m 2), .int .i64 k] 25)) (fun i _ => 3 - (intOf i).toNat)
      case atStart => exact ⟨0, Nat.zero_le _, by omega, rfl, rfl⟩
      case round =>
        obtain ⟨m, hm1, hm2, rfl, rfl⟩ := hrel
        by_cases hlt3 : m < 3 ∧ m < k
        · obtain ⟨h3, hk3⟩ := hlt3
          have hd3 := hX3.out m hk3
          rcases (show m = 0 ∨ m = 1 ∨ m = 2 by omega) with rfl | rfl | rfl
          · go_wp2
            go_roundw
            case rel => exact ⟨1, by omega, by omega, rfl, by simp [nth]⟩
            case measure => simp [intOf]
          · go_wp2
            go_roundw
            case rel => exact ⟨2, by omega, by omega, rfl, by simp [nth]⟩
            case measure => simp [intOf]
          · go_wp2
            go_roundw
            case rel => exact ⟨3, by omega, by omega, rfl, by simp [nth]⟩
            case measure => simp [intOf]
        · have q0 : nth zs m 0 = nth zs k 0 := by unfold nth; by_cases h : 0 < m <;> by_cases h' : 0 < k <;> simp [h, h'] <;> omega
          have q1 : nth zs m 1 = nth zs k 1 := by unfold nth; by_cases h : 1 < m <;> by_cases h' : 1 < k <;> simp [h, h'] <;> omega
          have q2 : nth zs m 2 = nth zs k 2 := by unfold nth; by_cases h : 2 < m <;> by_cases h' : 2 < k <;> simp [h, h'] <;> omega
          rw [q0, q1, q2]
          clear q0 q1 q2
          by_cases h3 : m < 3
          · have hk3 : ¬ m < k := by omega
            go_wp2
            go_loopw [12] (fun i w5 => ∃ j : Nat, j ≤ k ∧ i = .int .i64 j ∧ Below w.heap.size w w5 ∧ ∀ j, j < k → w5.cell? ⟨w.heap.size, j, none⟩ = some (.int .i64 (zs[j]?.getD 0))) (fun i _ => k - (intOf i).toNat)
            case atStart => exact ⟨0, Nat.zero_le _, rfl, (hB3.out.alloc (by omega) _).alloc (by simp; omega) _, fun j hj => by rw [World.cell?_alloc_past _ _ _ (by simp; omega), World.cell?_alloc_past _ _ _ hz3]; exact hX3.out j hj⟩
            case round =>
              obtain ⟨j, hj, rfl, hB5, hX5⟩ := hrel
              have HB5 : Hid _ := hB5
              have HX5 : Hid (∀ j, j < k → wr.cell? ⟨w.heap.size, j, none⟩ = some (.int .i64 (zs[j]?.getD 0))) := hX5
              clear hX5 hB5
              by_cases hjk : j < k
              · have c1 : wr.cell? ⟨b, off + j, none⟩ = some (.int .i64 (zs[j]?.getD 0)) := (Below.cell HB5.out (p := ⟨b, off + j, none⟩) hb).trans (HC.out j hjk)
                have c2 := HX5.out j hjk
                go_wp2
                go_quiet (fail)
                go_wp2
                go_roundw
                case rel => exact ⟨j + 1, by omega, by go_num, below_drewN HB5.out _, HX5.out⟩
                case measure => simp [intOf]; omega
              · go_wp2
                go_ret
                exact ⟨rfl, HB5.out⟩
          · go_wp2
            go_loopw [12] (fun i w5 => ∃ j : Nat, j ≤ k ∧ i = .int .i64 j ∧ Below w.heap.size w w5 ∧ ∀ j, j < k → w5.cell? ⟨w.heap.size, j, none⟩ = some (.int .i64 (zs[j]?.getD 0))) (fun i _ => k - (intOf i).toNat)
            case atStart => exact ⟨0, Nat.zero_le _, rfl, (hB3.out.alloc (by omega) _).alloc (by simp; omega) _, fun j hj => by rw [World.cell?_alloc_past _ _ _ (by simp; omega), World.cell?_alloc_past _ _ _ hz3]; exact hX3.out j hj⟩
            case round =>
              obtain ⟨j, hj, rfl, hB5, hX5⟩ := hrel
              have HB5 : Hid _ := hB5
              have HX5 : Hid (∀ j, j < k → wr.cell? ⟨w.heap.size, j, none⟩ = some (.int .i64 (zs[j]?.getD 0))) := hX5
              clear hX5 hB5
              by_cases hjk : j < k
              · have c1 : wr.cell? ⟨b, off + j, none⟩ = some (.int .i64 (zs[j]?.getD 0)) := (Below.cell HB5.out (p := ⟨b, off + j, none⟩) hb).trans (HC.out j hjk)
                have c2 := HX5.out j hjk
                go_wp2
                go_quiet (fail)
                go_wp2
                go_roundw
                case rel => exact ⟨j + 1, by omega, by go_num, below_drewN HB5.out _, HX5.out⟩
                case measure => simp [intOf]; omega
              · go_wp2
                go_ret
                exact ⟨rfl, HB5.out⟩
end Go.Proofs.Ybulkdsru
