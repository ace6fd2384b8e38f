import Derived.Test.YbulkdsruGreatDoorByt
import Derived.Deep.LoopGhost
namespace Go.Proofs.YbulkdsruGreatDoor
open Go.RowKit Go.Op
set_option linter.unusedVariables false
set_option linter.unusedSimpArgs false

/-- No fault. -/
def fz : Value := .agg #[.string ⟨#[]⟩, .int .i64 0, .int .i64 0, .string ⟨#[]⟩, .string ⟨#[]⟩, .int .i64 0, .int .i64 0, .int .i64 0, .int .i64 0]

set_option maxRecDepth 8000 in
set_option maxHeartbeats 2000000 in
theorem found_z (w : World) : Calls Ybaz.prog 42 #[fz] w fun e w' => e = .returned (.bool false) ∧ Below w.heap.size w w' := by
  go_enter Ybaz.func42, Ybaz.ntmps42
  unfold fz
  go_wp2_with fail
  go_ret
  exact ⟨rfl, (Below.refl _ w).alloc (Nat.le_refl _) _⟩

set_option maxRecDepth 8000 in
set_option maxHeartbeats 2000000 in
theorem rep_any (nm : Value) (g o len cap k : Nat) (v : Int) (w : World) (hb : g < w.heap.size) (hl : 1 ≤ len) (hk : k ≤ len) (hk2 : k < 1000) (hc : w.cell? ⟨g, o, none⟩ = some (.int .u8 v)) (hv : bits .and .u8 v 31 = 0) :
    Calls Ybaz.prog 53 #[nm, .slice (some ⟨g, o, none⟩) len cap, .int .i64 k] w fun e w' => e = .returned fz ∧ Below w.heap.size w w' := by
  have HB : Hid (Below w.heap.size w (w.alloc (.cells #[.string ⟨#[]⟩, .int .i64 0, .int .i64 0, .string ⟨#[]⟩, .string ⟨#[]⟩, .int .i64 0, .int .i64 0, .int .i64 0, .int .i64 0] 71))) := ((Below.refl _ w).alloc (Nat.le_refl _) _)
  have hU := count_any g o len cap v (w.alloc (.cells #[.string ⟨#[]⟩, .int .i64 0, .int .i64 0, .string ⟨#[]⟩, .string ⟨#[]⟩, .int .i64 0, .int .i64 0, .int .i64 0, .int .i64 0] 71)) hl ((HB.out.cell (p := ⟨g, o, none⟩) hb).trans hc)
  rw [hv] at hU
  have e1 : (0 : Int) * 24 = 0 := rfl
  go_enter Ybaz.func53, Ybaz.ntmps53
  go_wp2_with fail
  go_at_call 48
  refine hU.mono ?_
  rintro e w1 ⟨rfl, rfl⟩
  go_wp2_with fail
  refine bodyPost_ret (v := fz) (by simp [results, Ybaz.results53, go_sem, fz]) rfl ⟨rfl, HB.out⟩

set_option maxRecDepth 8000 in
set_option maxHeartbeats 2000000 in
theorem sdes_any (g o len cap : Nat) (v : Int) (w : World) (hb : g < w.heap.size) (hl : 4 ≤ len) (hlc : len ≤ cap) (hc : w.cell? ⟨g, o, none⟩ = some (.int .u8 v)) (hv : bits .and .u8 v 31 = 0) :
    Calls Ybaz.prog 54 #[.slice (some ⟨g, o, none⟩) len cap] w fun e w' => e = .returned fz ∧ Below w.heap.size w w' := by
  have HB : Hid (Below w.heap.size w (w.alloc (.cells #[.string ⟨#[]⟩, .int .i64 0, .int .i64 0, .string ⟨#[]⟩, .string ⟨#[]⟩, .int .i64 0, .int .i64 0, .int .i64 0, .int .i64 0] 71))) := ((Below.refl _ w).alloc (Nat.le_refl _) _)
  have hU := count_any g o len cap v (w.alloc (.cells #[.string ⟨#[]⟩, .int .i64 0, .int .i64 0, .string ⟨#[]⟩, .string ⟨#[]⟩, .int .i64 0, .int .i64 0, .int .i64 0, .int .i64 0] 71)) (by omega) ((HB.out.cell (p := ⟨g, o, none⟩) hb).trans hc)
  rw [hv] at hU
  by_cases h4 : cap = 4
  · subst h4
    go_enter Ybaz.func54, Ybaz.ntmps54
    go_wp2_with fail
    go_at_call 48
    refine hU.mono ?_
    rintro e w1 ⟨rfl, rfl⟩
    go_wp2_with fail
    go_loopg [12] 0 (fun k i wr => i = .int .i64 0 ∧ wr = w.alloc (.cells #[.string ⟨#[]⟩, .int .i64 0, .int .i64 0, .string ⟨#[]⟩, .string ⟨#[]⟩, .int .i64 0, .int .i64 0, .int .i64 0, .int .i64 0] 71))
    case atStart => exact ⟨rfl, rfl⟩
    case round =>
      obtain ⟨rfl, rfl⟩ := hrel
      go_wp2_with fail
      refine bodyPost_ret (v := fz) (by simp [results, Ybaz.results54, go_sem, fz]) rfl ⟨rfl, HB.out⟩
  · have h5 : ¬ cap - 4 = 0 := by omega
    go_enter Ybaz.func54, Ybaz.ntmps54
    go_wp2_with fail
    go_at_call 48
    refine hU.mono ?_
    rintro e w1 ⟨rfl, rfl⟩
    go_wp2_with fail
    go_loopg [12] 0 (fun k i wr => i = .int .i64 0 ∧ wr = w.alloc (.cells #[.string ⟨#[]⟩, .int .i64 0, .int .i64 0, .string ⟨#[]⟩, .string ⟨#[]⟩, .int .i64 0, .int .i64 0, .int .i64 0, .int .i64 0] 71))
    case atStart => exact ⟨rfl, rfl⟩
    case round =>
      obtain ⟨rfl, rfl⟩ := hrel
      go_wp2_with fail
      refine bodyPost_ret (v := fz) (by simp [results, Ybaz.results54, go_sem, fz]) rfl ⟨rfl, HB.out⟩

set_option maxRecDepth 8000 in
set_option maxHeartbeats 2000000 in
theorem byec_any (g o n cap : Nat) (v : Int) (w : World) (hb : g < w.heap.size) (hn : n ≤ 31) (hc : w.cell? ⟨g, o, none⟩ = some (.int .u8 v)) (hv : bits .and .u8 v 31 = n) :
    Calls Ybaz.prog 55 #[.slice (some ⟨g, o, none⟩) (4 + 4 * n) cap] w fun e w' => e = .returned fz ∧ Below w.heap.size w w' := by
  have HB : Hid (Below w.heap.size w (w.alloc (.cells #[.string ⟨#[]⟩, .int .i64 0, .int .i64 0, .string ⟨#[]⟩, .string ⟨#[]⟩, .int .i64 0, .int .i64 0, .int .i64 0, .int .i64 0] 71))) := ((Below.refl _ w).alloc (Nat.le_refl _) _)
  have hU := count_any g o (4 + 4 * n) cap v (w.alloc (.cells #[.string ⟨#[]⟩, .int .i64 0, .int .i64 0, .string ⟨#[]⟩, .string ⟨#[]⟩, .int .i64 0, .int .i64 0, .int .i64 0, .int .i64 0] 71)) (by omega) ((HB.out.cell (p := ⟨g, o, none⟩) hb).trans hc)
  rw [hv] at hU
  have HV : Hid _ := hv
  clear hv
  go_enter Ybaz.func55, Ybaz.ntmps55
  go_wp2_with fail
  go_at_call 48
  refine hU.mono ?_
  rintro e w1 ⟨rfl, rfl⟩
  go_wp2_with fail
  refine bodyPost_ret (v := fz) (by simp [results, Ybaz.results55, go_sem, fz]) rfl ⟨rfl, HB.out⟩
end Go.Proofs.YbulkdsruGreatDoor
