import Derived.Test.YbulkdsruGreatDoorView
namespace Go.Proofs.YbulkdsruGreatDoor
open Go.RowKit Go.Op
set_option linter.unusedVariables false
set_option linter.unusedSimpArgs false

/-- A view of a packet of the type t. -/
def viewV (sl : Value) (v t : Int) : Value := if v = t then .tuple #[.agg #[sl], .bool true] else .tuple #[.agg #[.slice none 0 0], .bool false]

set_option maxHeartbeats 1000000 in
theorem sr_any (b o len cap : Nat) (n v : Int) (w : World) (hl : 2 ≤ len) (hb : b < w.heap.size) (hc : w.cell? ⟨b, o + 1, none⟩ = some (.int .u8 v)) :
    Calls Ybaz.prog 23 #[.agg #[.slice (some ⟨b, o, none⟩) len cap, .int .i64 n]] w fun e w' => e = .returned (viewV (.slice (some ⟨b, o, none⟩) len cap) v 200) ∧ Below w.heap.size w w' := by
  have HL : Hid _ := hl
  have HB : Hid _ := hb
  have HC : Hid (((w.alloc (.cells #[.slice (some ⟨b, o, none⟩) len cap, .int .i64 n] 81)).alloc (.cells #[.slice none 0 0] 87)).cell? ⟨b, o + 1, none⟩ = some (.int .u8 v)) := ((((Below.refl w.heap.size w).alloc (Nat.le_refl _) _).alloc (by simp) _).cell (p := ⟨b, o + 1, none⟩) hb).trans hc
  clear hl hb hc
  go_enter Ybaz.func23, Ybaz.ntmps23
  go_wp2_with fail
  go_at_call 46
  refine (as_any b o len cap n v 200 _ HL.out (by have := HB.out; simp; omega) HC.out).mono ?_
  rintro e w1 ⟨rfl, hb1⟩
  have B1 : Hid (Below (w.heap.size + 2) ((w.alloc (.cells #[.slice (some ⟨b, o, none⟩) len cap, .int .i64 n] 81)).alloc (.cells #[.slice none 0 0] 87)) w1) := hb1.mono (by simp)
  have hcc : ∀ o', w1.cell? ⟨w.heap.size + 1, o', none⟩ = ((w.alloc (.cells #[.slice (some ⟨b, o, none⟩) len cap, .int .i64 n] 81)).alloc (.cells #[.slice none 0 0] 87)).cell? ⟨w.heap.size + 1, o', none⟩ := fun o' => B1.out.cell (p := ⟨w.heap.size + 1, o', none⟩) (by simp)
  have hff : ∀ o', w1.frozen? ⟨w.heap.size + 1, o', none⟩ = ((w.alloc (.cells #[.slice (some ⟨b, o, none⟩) len cap, .int .i64 n] 81)).alloc (.cells #[.slice none 0 0] 87)).frozen? ⟨w.heap.size + 1, o', none⟩ := fun o' => B1.out.frozen (p := ⟨w.heap.size + 1, o', none⟩) (by simp)
  have hz : w.heap.size + 1 < w1.heap.size := by have := B1.out.size; simp at this; omega
  clear hb1
  unfold asV
  by_cases hv : v = 200
  · rw [if_pos hv]
    have EV : ∀ q t', v = t' → viewV q v t' = .tuple #[.agg #[q], .bool true] := fun q t' h => if_pos h
    have EV2 : Hid _ := EV
    have HV : Hid _ := hv
    clear EV hv
    go_wp2_with fail
    refine bodyPost_ret (v := .tuple #[.agg #[.slice (some ⟨b, o, none⟩) len cap], .bool true]) (by simp [results, Ybaz.results23, go_sem, hcc, hz]) rfl ⟨by rw [EV2.out _ _ HV.out], ?_⟩
    exact ((((Below.refl _ _).alloc (Nat.le_refl _) _).alloc (by simp) _).trans (B1.out.mono (by omega))).setCell (by simp) _
  · rw [if_neg hv]
    have EV : ∀ q t', ¬ v = t' → viewV q v t' = .tuple #[.agg #[.slice none 0 0], .bool false] := fun q t' h => if_neg h
    have EV2 : Hid _ := EV
    have HV : Hid _ := hv
    clear EV hv
    go_wp2_with fail
    refine bodyPost_ret (v := .tuple #[.agg #[.slice none 0 0], .bool false]) (by simp [results, Ybaz.results23, go_sem, hcc, hz]) rfl ⟨by rw [EV2.out _ _ HV.out], ?_⟩
    exact ((((Below.refl _ _).alloc (Nat.le_refl _) _).alloc (by simp) _).trans (B1.out.mono (by omega))).setCell (by simp) _

set_option maxHeartbeats 1000000 in
theorem rr_any (b o len cap : Nat) (n v : Int) (w : World) (hl : 2 ≤ len) (hb : b < w.heap.size) (hc : w.cell? ⟨b, o + 1, none⟩ = some (.int .u8 v)) :
    Calls Ybaz.prog 26 #[.agg #[.slice (some ⟨b, o, none⟩) len cap, .int .i64 n]] w fun e w' => e = .returned (viewV (.slice (some ⟨b, o, none⟩) len cap) v 201) ∧ Below w.heap.size w w' := by
  have HL : Hid _ := hl
  have HB : Hid _ := hb
  have HC : Hid (((w.alloc (.cells #[.slice (some ⟨b, o, none⟩) len cap, .int .i64 n] 81)).alloc (.cells #[.slice none 0 0] 92)).cell? ⟨b, o + 1, none⟩ = some (.int .u8 v)) := ((((Below.refl w.heap.size w).alloc (Nat.le_refl _) _).alloc (by simp) _).cell (p := ⟨b, o + 1, none⟩) hb).trans hc
  clear hl hb hc
  go_enter Ybaz.func26, Ybaz.ntmps26
  go_wp2_with fail
  go_at_call 46
  refine (as_any b o len cap n v 201 _ HL.out (by have := HB.out; simp; omega) HC.out).mono ?_
  rintro e w1 ⟨rfl, hb1⟩
  have B1 : Hid (Below (w.heap.size + 2) ((w.alloc (.cells #[.slice (some ⟨b, o, none⟩) len cap, .int .i64 n] 81)).alloc (.cells #[.slice none 0 0] 92)) w1) := hb1.mono (by simp)
  have hcc : ∀ o', w1.cell? ⟨w.heap.size + 1, o', none⟩ = ((w.alloc (.cells #[.slice (some ⟨b, o, none⟩) len cap, .int .i64 n] 81)).alloc (.cells #[.slice none 0 0] 92)).cell? ⟨w.heap.size + 1, o', none⟩ := fun o' => B1.out.cell (p := ⟨w.heap.size + 1, o', none⟩) (by simp)
  have hff : ∀ o', w1.frozen? ⟨w.heap.size + 1, o', none⟩ = ((w.alloc (.cells #[.slice (some ⟨b, o, none⟩) len cap, .int .i64 n] 81)).alloc (.cells #[.slice none 0 0] 92)).frozen? ⟨w.heap.size + 1, o', none⟩ := fun o' => B1.out.frozen (p := ⟨w.heap.size + 1, o', none⟩) (by simp)
  have hz : w.heap.size + 1 < w1.heap.size := by have := B1.out.size; simp at this; omega
  clear hb1
  unfold asV
  by_cases hv : v = 201
  · rw [if_pos hv]
    have EV : ∀ q t', v = t' → viewV q v t' = .tuple #[.agg #[q], .bool true] := fun q t' h => if_pos h
    have EV2 : Hid _ := EV
    have HV : Hid _ := hv
    clear EV hv
    go_wp2_with fail
    refine bodyPost_ret (v := .tuple #[.agg #[.slice (some ⟨b, o, none⟩) len cap], .bool true]) (by simp [results, Ybaz.results26, go_sem, hcc, hz]) rfl ⟨by rw [EV2.out _ _ HV.out], ?_⟩
    exact ((((Below.refl _ _).alloc (Nat.le_refl _) _).alloc (by simp) _).trans (B1.out.mono (by omega))).setCell (by simp) _
  · rw [if_neg hv]
    have EV : ∀ q t', ¬ v = t' → viewV q v t' = .tuple #[.agg #[.slice none 0 0], .bool false] := fun q t' h => if_neg h
    have EV2 : Hid _ := EV
    have HV : Hid _ := hv
    clear EV hv
    go_wp2_with fail
    refine bodyPost_ret (v := .tuple #[.agg #[.slice none 0 0], .bool false]) (by simp [results, Ybaz.results26, go_sem, hcc, hz]) rfl ⟨by rw [EV2.out _ _ HV.out], ?_⟩
    exact ((((Below.refl _ _).alloc (Nat.le_refl _) _).alloc (by simp) _).trans (B1.out.mono (by omega))).setCell (by simp) _

set_option maxHeartbeats 1000000 in
theorem bye_any (b o len cap : Nat) (n v : Int) (w : World) (hl : 2 ≤ len) (hb : b < w.heap.size) (hc : w.cell? ⟨b, o + 1, none⟩ = some (.int .u8 v)) :
    Calls Ybaz.prog 20 #[.agg #[.slice (some ⟨b, o, none⟩) len cap, .int .i64 n]] w fun e w' => e = .returned (viewV (.slice (some ⟨b, o, none⟩) len cap) v 203) ∧ Below w.heap.size w w' := by
  have HL : Hid _ := hl
  have HB : Hid _ := hb
  have HC : Hid (((w.alloc (.cells #[.slice (some ⟨b, o, none⟩) len cap, .int .i64 n] 81)).alloc (.cells #[.slice none 0 0] 82)).cell? ⟨b, o + 1, none⟩ = some (.int .u8 v)) := ((((Below.refl w.heap.size w).alloc (Nat.le_refl _) _).alloc (by simp) _).cell (p := ⟨b, o + 1, none⟩) hb).trans hc
  clear hl hb hc
  go_enter Ybaz.func20, Ybaz.ntmps20
  go_wp2_with fail
  go_at_call 46
  refine (as_any b o len cap n v 203 _ HL.out (by have := HB.out; simp; omega) HC.out).mono ?_
  rintro e w1 ⟨rfl, hb1⟩
  have B1 : Hid (Below (w.heap.size + 2) ((w.alloc (.cells #[.slice (some ⟨b, o, none⟩) len cap, .int .i64 n] 81)).alloc (.cells #[.slice none 0 0] 82)) w1) := hb1.mono (by simp)
  have hcc : ∀ o', w1.cell? ⟨w.heap.size + 1, o', none⟩ = ((w.alloc (.cells #[.slice (some ⟨b, o, none⟩) len cap, .int .i64 n] 81)).alloc (.cells #[.slice none 0 0] 82)).cell? ⟨w.heap.size + 1, o', none⟩ := fun o' => B1.out.cell (p := ⟨w.heap.size + 1, o', none⟩) (by simp)
  have hff : ∀ o', w1.frozen? ⟨w.heap.size + 1, o', none⟩ = ((w.alloc (.cells #[.slice (some ⟨b, o, none⟩) len cap, .int .i64 n] 81)).alloc (.cells #[.slice none 0 0] 82)).frozen? ⟨w.heap.size + 1, o', none⟩ := fun o' => B1.out.frozen (p := ⟨w.heap.size + 1, o', none⟩) (by simp)
  have hz : w.heap.size + 1 < w1.heap.size := by have := B1.out.size; simp at this; omega
  clear hb1
  unfold asV
  by_cases hv : v = 203
  · rw [if_pos hv]
    have EV : ∀ q t', v = t' → viewV q v t' = .tuple #[.agg #[q], .bool true] := fun q t' h => if_pos h
    have EV2 : Hid _ := EV
    have HV : Hid _ := hv
    clear EV hv
    go_wp2_with fail
    refine bodyPost_ret (v := .tuple #[.agg #[.slice (some ⟨b, o, none⟩) len cap], .bool true]) (by simp [results, Ybaz.results20, go_sem, hcc, hz]) rfl ⟨by rw [EV2.out _ _ HV.out], ?_⟩
    exact ((((Below.refl _ _).alloc (Nat.le_refl _) _).alloc (by simp) _).trans (B1.out.mono (by omega))).setCell (by simp) _
  · rw [if_neg hv]
    have EV : ∀ q t', ¬ v = t' → viewV q v t' = .tuple #[.agg #[.slice none 0 0], .bool false] := fun q t' h => if_neg h
    have EV2 : Hid _ := EV
    have HV : Hid _ := hv
    clear EV hv
    go_wp2_with fail
    refine bodyPost_ret (v := .tuple #[.agg #[.slice none 0 0], .bool false]) (by simp [results, Ybaz.results20, go_sem, hcc, hz]) rfl ⟨by rw [EV2.out _ _ HV.out], ?_⟩
    exact ((((Below.refl _ _).alloc (Nat.le_refl _) _).alloc (by simp) _).trans (B1.out.mono (by omega))).setCell (by simp) _
end Go.Proofs.YbulkdsruGreatDoor
