import Derived.Test.YbulkdsruGreatDoorChk3
namespace Go.Proofs.YbulkdsruGreatDoor
open Go.RowKit Go.Op
set_option linter.unusedVariables false
set_option linter.unusedSimpArgs false

set_option maxRecDepth 8000 in
set_option maxHeartbeats 1000000 in
attribute [local go_sem] setCell_id in
theorem parseall (g o cap : Nat) (ps : List Pk) (w : World) (hg : g < w.heap.size) (hok : ∀ p ∈ ps, p.ok) (hr : Row w g o (flat ps)) (hc : (flat ps).length ≤ cap) (hlen : ps.length < 1000000000)
    (h1 : ∃ p r, ps = p :: r ∧ (p.typ = 200 ∨ p.typ = 201)) :
    Calls Ybaz.prog 5 #[.slice (some ⟨g, o, none⟩) (flat ps).length cap] w fun e w' => e = .returned (.tuple #[.agg #[.slice (some ⟨g, o, none⟩) (flat ps).length cap], .nilIface]) ∧ Below w.heap.size w w' := by
  have HB : Hid (Below w.heap.size w (w.alloc (.cells #[.slice none 0 0] 35))) := (Below.refl _ w).alloc (Nat.le_refl _) _
  have hC := checkall g o cap ps (w.alloc (.cells #[.slice none 0 0] 35)) (by simp; omega) hok (hr.below HB.out hg) hc hlen h1
  obtain ⟨L, hL⟩ : ∃ L, (flat ps).length = L := ⟨_, rfl⟩
  rw [hL] at hC ⊢
  clear hok hr h1 hL hc hlen hg
  go_enter Ybaz.func5, Ybaz.ntmps5
  go_wp2_with fail
  go_at_call 17
  refine hC.mono ?_
  clear hC
  rintro e w1 ⟨rfl, hb1⟩
  have B1 : Hid (Below (w.heap.size + 1) (w.alloc (.cells #[.slice none 0 0] 35)) w1) := hb1.mono (by simp)
  clear hb1
  have hz : w.heap.size < w1.heap.size := by have := B1.out.size; simp at this; omega
  have n1 : ¬ w.heap.size = w1.heap.size := by omega
  have n2 : ¬ w.heap.size = w1.heap.size + 1 := by omega
  have B3 : Hid (Below w1.heap.size w1 ((w1.alloc (.cells #[.slice (some ⟨g, o, none⟩) L cap] 35)).alloc (.cells #[.int .i64 0, .string ⟨#[]⟩, .int .i64 0, .int .i64 0, .string ⟨#[]⟩, .string ⟨#[]⟩, .int .i64 0, .int .i64 0, .int .i64 0, .int .i64 0] 73))) := ((Below.refl _ _).alloc (Nat.le_refl _) _).alloc (by simp) _
  have p0 : ((w1.alloc (.cells #[.slice (some ⟨g, o, none⟩) L cap] 35)).alloc (.cells #[.int .i64 0, .string ⟨#[]⟩, .int .i64 0, .int .i64 0, .string ⟨#[]⟩, .string ⟨#[]⟩, .int .i64 0, .int .i64 0, .int .i64 0, .int .i64 0] 73)).cell? ⟨w.heap.size, 0, none⟩ = some (.slice none 0 0) := (B3.out.cell (p := ⟨w.heap.size, 0, none⟩) (by simp; omega)).trans ((B1.out.cell (p := ⟨w.heap.size, 0, none⟩) (by simp)).trans (by simp [go_sem]))
  have f0 : ((w1.alloc (.cells #[.slice (some ⟨g, o, none⟩) L cap] 35)).alloc (.cells #[.int .i64 0, .string ⟨#[]⟩, .int .i64 0, .int .i64 0, .string ⟨#[]⟩, .string ⟨#[]⟩, .int .i64 0, .int .i64 0, .int .i64 0, .int .i64 0] 73)).frozen? ⟨w.heap.size, 0, none⟩ = false := (B3.out.frozen (p := ⟨w.heap.size, 0, none⟩) (by simp; omega)).trans ((B1.out.frozen (p := ⟨w.heap.size, 0, none⟩) (by simp)).trans (by simp [go_sem]))
  go_wp2_with fail
  have W4 : Hid (Below w1.heap.size (w1.setCell ⟨w.heap.size, 0, none⟩ (.slice (some ⟨g, o, none⟩) L cap)) (((w1.setCell ⟨w.heap.size, 0, none⟩ (.slice (some ⟨g, o, none⟩) L cap)).alloc (.cells #[.slice (some ⟨g, o, none⟩) L cap] 35)).alloc (.cells #[.int .i64 0, .string ⟨#[]⟩, .int .i64 0, .int .i64 0, .string ⟨#[]⟩, .string ⟨#[]⟩, .int .i64 0, .int .i64 0, .int .i64 0, .int .i64 0] 73))) := ((Below.refl _ _).alloc (by simp) _).alloc (by simp) _
  have q0 : w1.cell? ⟨w.heap.size, 0, none⟩ = some (.slice none 0 0) := (B1.out.cell (p := ⟨w.heap.size, 0, none⟩) (by simp)).trans (by simp [go_sem])
  have r0 := (W4.out.cell (p := ⟨w.heap.size, 0, none⟩) hz).trans (World.cell?_setCell_same _ _ _ q0)
  refine bodyPost_ret (v := .tuple #[.agg #[.slice (some ⟨g, o, none⟩) L cap], .nilIface]) (by simp [results, Ybaz.results5, go_sem, r0]) rfl ⟨rfl, ?_⟩
  exact ((HB.out.trans (B1.out.mono (by omega))).setCell (by simp) _).trans (W4.out.mono (by omega))
end Go.Proofs.YbulkdsruGreatDoor
