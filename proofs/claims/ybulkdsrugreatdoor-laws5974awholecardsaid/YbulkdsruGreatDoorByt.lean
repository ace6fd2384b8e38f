import Derived.Test.YbulkdsruGreatDoorView
import Derived.Lib.EndianBits
import Derived.BigQuiet
import Derived.Deep.RegionWith
import Derived.Deep.RegionHeld3
namespace Go.Proofs.YbulkdsruGreatDoor
open Go.RowKit Go.Op
set_option linter.unusedVariables false
set_option linter.unusedSimpArgs false

theorem below_drewN {B : Nat} {a w : World} (k : Nat) (h : Below B a w) : Below B a (w.drewN k) := by
  induction k with
  | zero => exact h
  | succ k ih => exact ih.drew

set_option maxHeartbeats 2000000 in
theorem uint16_any (g o n c : Nat) (v0 v1 : Int) (w : World) (hn : 2 ≤ n) (hg : g < w.heap.size)
    (c0 : w.cell? ⟨g, o, none⟩ = some (.int .u8 v0)) (c1 : w.cell? ⟨g, o + 1, none⟩ = some (.int .u8 v1)) (h0 : 0 ≤ v0 ∧ v0 < 256) (h1 : 0 ≤ v1 ∧ v1 < 256) :
    Calls Ybaz.prog 59 #[.agg #[], .slice (some ⟨g, o, none⟩) n c] w fun e w' => e = .returned (.int .u16 (v1 + v0 * 256)) ∧ Below w.heap.size w w' := by
  obtain ⟨a0, b0⟩ := h0
  obtain ⟨a1, b1⟩ := h1
  have hne : ¬ g = w.heap.size := by omega
  have E : bits .or .u16 v1 (v0 * 256) = v1 + v0 * 256 := u16_or8 _ _ a1 b1 (by omega) (by omega) (by omega)
  go_enter Ybaz.func59, Ybaz.ntmps59
  go_wp2_with fail
  go_quiet (fail)
  go_wp2_with fail
  go_ret
  exact ⟨rfl, below_drewN _ ((Below.refl _ w).alloc (Nat.le_refl _) _)⟩

set_option maxHeartbeats 2000000 in
theorem uint32_any (g o n c : Nat) (v0 v1 v2 v3 : Int) (w : World) (hn : 4 ≤ n) (hg : g < w.heap.size)
    (c0 : w.cell? ⟨g, o, none⟩ = some (.int .u8 v0)) (c1 : w.cell? ⟨g, o + 1, none⟩ = some (.int .u8 v1)) (c2 : w.cell? ⟨g, o + 2, none⟩ = some (.int .u8 v2)) (c3 : w.cell? ⟨g, o + 3, none⟩ = some (.int .u8 v3))
    (h0 : 0 ≤ v0 ∧ v0 < 256) (h1 : 0 ≤ v1 ∧ v1 < 256) (h2 : 0 ≤ v2 ∧ v2 < 256) (h3 : 0 ≤ v3 ∧ v3 < 256) :
    Calls Ybaz.prog 47 #[.agg #[], .slice (some ⟨g, o, none⟩) n c] w fun e w' => e = .returned (.int .u32 (v3 + v2 * 256 + v1 * 65536 + v0 * 16777216)) ∧ Below w.heap.size w w' := by
  obtain ⟨a0, b0⟩ := h0
  obtain ⟨a1, b1⟩ := h1
  obtain ⟨a2, b2⟩ := h2
  obtain ⟨a3, b3⟩ := h3
  have hne : ¬ g = w.heap.size := by omega
  have E1 : bits .or .u32 v3 (v2 * 256) = v3 + v2 * 256 := u32_or8 _ _ a3 b3 (by omega) (by omega) (by omega)
  have E2 : bits .or .u32 (v3 + v2 * 256) (v1 * 65536) = v3 + v2 * 256 + v1 * 65536 := u32_or16 _ _ (by omega) (by omega) (by omega) (by omega) (by omega)
  have E3 : bits .or .u32 (v3 + v2 * 256 + v1 * 65536) (v0 * 16777216) = v3 + v2 * 256 + v1 * 65536 + v0 * 16777216 := u32_or24 _ _ (by omega) (by omega) (by omega) (by omega) (by omega)
  go_enter Ybaz.func47, Ybaz.ntmps47
  go_wp2_with fail
  go_quiet (fail)
  go_wp2_with fail
  go_ret
  exact ⟨rfl, below_drewN _ ((Below.refl _ w).alloc (Nat.le_refl _) _)⟩

set_option maxHeartbeats 2000000 in
theorem length_any (g o n c : Nat) (v0 v1 : Int) (w : World) (hn : 4 ≤ n) (hnc : n ≤ c) (hg : g < w.heap.size)
    (c0 : w.cell? ⟨g, o + 2, none⟩ = some (.int .u8 v0)) (c1 : w.cell? ⟨g, o + 3, none⟩ = some (.int .u8 v1)) (h0 : 0 ≤ v0 ∧ v0 < 256) (h1 : 0 ≤ v1 ∧ v1 < 256) :
    Calls Ybaz.prog 52 #[.slice (some ⟨g, o, none⟩) n c] w fun e w' => e = .returned (.int .i64 ((v1 + v0 * 256 + 1) * 4)) ∧ Below w.heap.size w w' := by
  have hU := uint16_any g (o + 2) 2 (c - 2) v0 v1 w.drew (by omega) hg c0 c1 h0 h1
  obtain ⟨a0, b0⟩ := h0
  obtain ⟨a1, b1⟩ := h1
  have E1 : IntKind.i64.wrap (v1 + v0 * 256) = v1 + v0 * 256 := by simp [IntKind.wrap, IntKind.bits, IntKind.signed]; omega
  have E2 : IntKind.i64.wrap (v1 + v0 * 256 + 1) = v1 + v0 * 256 + 1 := by simp [IntKind.wrap, IntKind.bits, IntKind.signed]; omega
  have E3 : IntKind.i64.wrap ((v1 + v0 * 256 + 1) * 4) = (v1 + v0 * 256 + 1) * 4 := by simp [IntKind.wrap, IntKind.bits, IntKind.signed]; omega
  go_enter Ybaz.func52, Ybaz.ntmps52
  go_wp2_with fail
  go_region_with (go_at_call 59; refine hU.mono ?_; rintro e w1 ⟨rfl, hb1⟩)
  all_goals (go_wp2_with fail)
  all_goals (go_ret)
  all_goals exact ⟨rfl, (Below.refl _ w).drew.trans hb1⟩

set_option maxHeartbeats 2000000 in
theorem srssrc_any (g o n c : Nat) (v0 v1 v2 v3 : Int) (w : World) (hn : 8 ≤ n) (hnc : n ≤ c) (hg : g < w.heap.size)
    (c0 : w.cell? ⟨g, o + 4, none⟩ = some (.int .u8 v0)) (c1 : w.cell? ⟨g, o + 5, none⟩ = some (.int .u8 v1)) (c2 : w.cell? ⟨g, o + 6, none⟩ = some (.int .u8 v2)) (c3 : w.cell? ⟨g, o + 7, none⟩ = some (.int .u8 v3))
    (h0 : 0 ≤ v0 ∧ v0 < 256) (h1 : 0 ≤ v1 ∧ v1 < 256) (h2 : 0 ≤ v2 ∧ v2 < 256) (h3 : 0 ≤ v3 ∧ v3 < 256) :
    Calls Ybaz.prog 25 #[.agg #[.slice (some ⟨g, o, none⟩) n c]] w fun e w' => e = .returned (.int .u32 (v3 + v2 * 256 + v1 * 65536 + v0 * 16777216)) ∧ Below w.heap.size w w' := by
  have HB : Hid (Below w.heap.size w (w.alloc (.cells #[.slice (some ⟨g, o, none⟩) n c] 87)).drew) := ((Below.refl _ w).alloc (Nat.le_refl _) _).drew
  have hU := uint32_any g (o + 4) 4 (c - 4) v0 v1 v2 v3 (w.alloc (.cells #[.slice (some ⟨g, o, none⟩) n c] 87)).drew (by omega) (by show g < (w.alloc _).heap.size; simp; omega)
    ((HB.out.cell (p := ⟨g, o + 4, none⟩) hg).trans c0) ((HB.out.cell (p := ⟨g, o + 5, none⟩) hg).trans c1) ((HB.out.cell (p := ⟨g, o + 6, none⟩) hg).trans c2) ((HB.out.cell (p := ⟨g, o + 7, none⟩) hg).trans c3) h0 h1 h2 h3
  go_enter Ybaz.func25, Ybaz.ntmps25
  go_wp2_with fail
  go_region_with (go_at_call 47; refine hU.mono ?_; rintro e w1 ⟨rfl, hb1⟩)
  all_goals (go_wp2_with fail)
  all_goals (go_ret)
  all_goals (exact ⟨rfl, HB.out.trans (hb1.mono (by show w.heap.size ≤ (w.alloc _).heap.size; simp))⟩)

set_option maxHeartbeats 2000000 in
theorem rrssrc_any (g o n c : Nat) (v0 v1 v2 v3 : Int) (w : World) (hn : 8 ≤ n) (hnc : n ≤ c) (hg : g < w.heap.size)
    (c0 : w.cell? ⟨g, o + 4, none⟩ = some (.int .u8 v0)) (c1 : w.cell? ⟨g, o + 5, none⟩ = some (.int .u8 v1)) (c2 : w.cell? ⟨g, o + 6, none⟩ = some (.int .u8 v2)) (c3 : w.cell? ⟨g, o + 7, none⟩ = some (.int .u8 v3))
    (h0 : 0 ≤ v0 ∧ v0 < 256) (h1 : 0 ≤ v1 ∧ v1 < 256) (h2 : 0 ≤ v2 ∧ v2 < 256) (h3 : 0 ≤ v3 ∧ v3 < 256) :
    Calls Ybaz.prog 27 #[.agg #[.slice (some ⟨g, o, none⟩) n c]] w fun e w' => e = .returned (.int .u32 (v3 + v2 * 256 + v1 * 65536 + v0 * 16777216)) ∧ Below w.heap.size w w' := by
  have HB : Hid (Below w.heap.size w (w.alloc (.cells #[.slice (some ⟨g, o, none⟩) n c] 92)).drew) := ((Below.refl _ w).alloc (Nat.le_refl _) _).drew
  have hU := uint32_any g (o + 4) 4 (c - 4) v0 v1 v2 v3 (w.alloc (.cells #[.slice (some ⟨g, o, none⟩) n c] 92)).drew (by omega) (by show g < (w.alloc _).heap.size; simp; omega)
    ((HB.out.cell (p := ⟨g, o + 4, none⟩) hg).trans c0) ((HB.out.cell (p := ⟨g, o + 5, none⟩) hg).trans c1) ((HB.out.cell (p := ⟨g, o + 6, none⟩) hg).trans c2) ((HB.out.cell (p := ⟨g, o + 7, none⟩) hg).trans c3) h0 h1 h2 h3
  go_enter Ybaz.func27, Ybaz.ntmps27
  go_wp2_with fail
  go_region_with (go_at_call 47; refine hU.mono ?_; rintro e w1 ⟨rfl, hb1⟩)
  all_goals (go_wp2_with fail)
  all_goals (go_ret)
  all_goals (exact ⟨rfl, HB.out.trans (hb1.mono (by show w.heap.size ≤ (w.alloc _).heap.size; simp))⟩)

set_option maxHeartbeats 2000000 in
theorem nums_any (b o len cap : Nat) (v : Int) (w : World) (hl : 1 ≤ len) (hb : b < w.heap.size) (hc : w.cell? ⟨b, o, none⟩ = some (.int .u8 v)) :
    Calls Ybaz.prog 28 #[.agg #[.slice (some ⟨b, o, none⟩) len cap]] w fun e w' => e = .returned (.int .i64 (bits .and .u8 v 31)) ∧ Below w.heap.size w w' := by
  have HB : Hid (Below w.heap.size w (w.alloc (.cells #[.slice (some ⟨b, o, none⟩) len cap] 82))) := ((Below.refl _ w).alloc (Nat.le_refl _) _)
  have hU := count_any b o len cap v (w.alloc (.cells #[.slice (some ⟨b, o, none⟩) len cap] 82)) hl ((HB.out.cell (p := ⟨b, o, none⟩) hb).trans hc)
  go_enter Ybaz.func28, Ybaz.ntmps28
  go_wp2_with fail
  go_at_call 48
  refine hU.mono ?_
  rintro e w1 ⟨rfl, rfl⟩
  go_wp2_with fail
  go_ret
  exact ⟨rfl, HB.out⟩

set_option maxHeartbeats 2000000 in
theorem found_any (x0 x1 x2 : Value) (x3 : Value) (w : World) :
    Calls Ybaz.prog 42 #[.agg #[x0, x1, x2, .string ⟨#[]⟩, x3]] w fun e w' => e = .returned (.bool false) ∧ Below w.heap.size w w' := by
  go_enter Ybaz.func42, Ybaz.ntmps42
  go_wp2_with fail
  go_ret
  exact ⟨rfl, (Below.refl _ w).alloc (Nat.le_refl _) _⟩
end Go.Proofs.YbulkdsruGreatDoor
