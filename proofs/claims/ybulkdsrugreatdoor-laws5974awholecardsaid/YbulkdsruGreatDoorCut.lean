import Derived.Test.YbulkdsruGreatDoorChk2
namespace Go.Proofs.YbulkdsruGreatDoor
open Go.RowKit Go.Op
set_option linter.unusedVariables false
set_option linter.unusedSimpArgs false

theorem and32 (n : Nat) (hn : n ≤ 31) : bits .and .u8 (128 + n) 32 = 0 := by
  have : ∀ n : Nat, n < 32 → bits .and .u8 (128 + n) 32 = 0 := by decide +kernel
  exact this n (by omega)
theorem and31 (n : Nat) (hn : n ≤ 31) : bits .and .u8 (128 + n) 31 = n := by
  have : ∀ n : Nat, n < 32 → bits .and .u8 (128 + n) 31 = n := by decide +kernel
  exact this n (by omega)

set_option maxRecDepth 8000 in
set_option maxHeartbeats 1000000 in
attribute [local go_sem] setCell_id in
theorem cut_m (g o L cap n k M : Nat) (w : World) (hM : ((k : Int) + 0 * 256 + 1) * 4 = (M : Int)) (hg : g < w.heap.size) (hL : M ≤ L) (hLc : L ≤ cap) (hn : n ≤ 31) (hk : k ≤ 31)
    (c0 : w.cell? ⟨g, o, none⟩ = some (.int .u8 (128 + n))) (c2 : w.cell? ⟨g, o + 2, none⟩ = some (.int .u8 0)) (c3 : w.cell? ⟨g, o + 3, none⟩ = some (.int .u8 k)) :
    Calls Ybaz.prog 41 #[.slice (some ⟨g, o, none⟩) L cap] w fun e w' => e = .returned (.tuple #[.agg #[.slice (some ⟨g, o, none⟩) M cap, .int .i64 M], fz]) ∧ Below w.heap.size w w' := by
  have HG : Hid _ := hg
  have HB : Hid (Below w.heap.size w ((w.alloc (.cells #[.slice none 0 0, .int .i64 0] 81)).alloc (.cells #[.string ⟨#[]⟩, .int .i64 0, .int .i64 0, .string ⟨#[]⟩, .string ⟨#[]⟩, .int .i64 0, .int .i64 0, .int .i64 0, .int .i64 0] 71))) := (((Below.refl _ w).alloc (Nat.le_refl _) _).alloc (by simp) _)
  have e0 : ((w.alloc (.cells #[.slice none 0 0, .int .i64 0] 81)).alloc (.cells #[.string ⟨#[]⟩, .int .i64 0, .int .i64 0, .string ⟨#[]⟩, .string ⟨#[]⟩, .int .i64 0, .int .i64 0, .int .i64 0, .int .i64 0] 71)).cell? ⟨g, o, none⟩ = some (.int .u8 (128 + n)) := (HB.out.cell (p := ⟨g, o, none⟩) hg).trans c0
  have hU := length_any g o L cap 0 k ((w.alloc (.cells #[.slice none 0 0, .int .i64 0] 81)).alloc (.cells #[.string ⟨#[]⟩, .int .i64 0, .int .i64 0, .string ⟨#[]⟩, .string ⟨#[]⟩, .int .i64 0, .int .i64 0, .int .i64 0, .int .i64 0] 71)) (by omega) (by omega) (by simp; omega) ((HB.out.cell (p := ⟨g, o + 2, none⟩) hg).trans c2) ((HB.out.cell (p := ⟨g, o + 3, none⟩) hg).trans c3) (by omega) (by omega)
  rw [hM] at hU
  have HM : Hid _ := hM
  have h4 : 4 ≤ L := by omega
  have h4i : ¬ (L : Int) < 4 := by omega
  have h6i : ¬ (L : Int) < (M : Int) := by omega
  clear hM
  have a32 := and32 n hn
  have q6 : ((128 : Int) + n) / 64 = 2 := by omega
  have hne : ¬ g = w.heap.size := by omega
  have hne2 : ¬ g = w.heap.size + 1 := by omega
  have C0 : Hid _ := c0
  clear hg c0 c2 c3
  go_enter Ybaz.func41, Ybaz.ntmps41
  go_wp2_with fail
  go_at_call 52
  refine hU.mono ?_
  clear hU
  rintro e w1 ⟨rfl, hb1⟩
  have B1 : Hid (Below (w.heap.size + 2) ((w.alloc (.cells #[.slice none 0 0, .int .i64 0] 81)).alloc (.cells #[.string ⟨#[]⟩, .int .i64 0, .int .i64 0, .string ⟨#[]⟩, .string ⟨#[]⟩, .int .i64 0, .int .i64 0, .int .i64 0, .int .i64 0] 71)) w1) := hb1.mono (by simp)
  have hz : w.heap.size + 1 < w1.heap.size := by have := B1.out.size; simp at this; omega
  clear hb1
  have B3 : Hid (Below w1.heap.size w1 (w1.alloc (.cells #[.slice (some ⟨g, o, none⟩) M cap, .int .i64 M] 81))) := (Below.refl _ _).alloc (Nat.le_refl _) _
  have e1 : (w1.alloc (.cells #[.slice (some ⟨g, o, none⟩) M cap, .int .i64 M] 81)).cell? ⟨g, o, none⟩ = some (.int .u8 (128 + n)) := (B3.out.cell (p := ⟨g, o, none⟩) (by have := HG.out; simp; omega)).trans ((B1.out.cell (p := ⟨g, o, none⟩) (by have := HG.out; simp; omega)).trans e0)
  clear e0 q6
  have n1 : ¬ g = w1.heap.size := by have := HG.out; omega
  have n2 : ¬ w.heap.size = w1.heap.size := by omega
  have n3 : ¬ w.heap.size + 1 = w1.heap.size := by omega
  have n4 : ¬ w1.heap.size = w.heap.size := by omega
  have n5 : ¬ w1.heap.size = w.heap.size + 1 := by omega
  have p0 : (w1.alloc (.cells #[.slice (some ⟨g, o, none⟩) M cap, .int .i64 M] 81)).cell? ⟨w.heap.size, 0, none⟩ = some (.slice none 0 0) := (B3.out.cell (p := ⟨w.heap.size, 0, none⟩) (by simp; omega)).trans ((B1.out.cell (p := ⟨w.heap.size, 0, none⟩) (by simp)).trans (by simp [go_sem]))
  have p1 : (w1.alloc (.cells #[.slice (some ⟨g, o, none⟩) M cap, .int .i64 M] 81)).cell? ⟨w.heap.size, 1, none⟩ = some (.int .i64 0) := (B3.out.cell (p := ⟨w.heap.size, 1, none⟩) (by simp; omega)).trans ((B1.out.cell (p := ⟨w.heap.size, 1, none⟩) (by simp)).trans (by simp [go_sem]))
  have pf0 : (w1.alloc (.cells #[.slice (some ⟨g, o, none⟩) M cap, .int .i64 M] 81)).frozen? ⟨w.heap.size, 0, none⟩ = false := (B3.out.frozen (p := ⟨w.heap.size, 0, none⟩) (by simp; omega)).trans ((B1.out.frozen (p := ⟨w.heap.size, 0, none⟩) (by simp)).trans (by simp [go_sem]))
  have pf1 : (w1.alloc (.cells #[.slice (some ⟨g, o, none⟩) M cap, .int .i64 M] 81)).frozen? ⟨w.heap.size, 1, none⟩ = false := (B3.out.frozen (p := ⟨w.heap.size, 1, none⟩) (by simp; omega)).trans ((B1.out.frozen (p := ⟨w.heap.size, 1, none⟩) (by simp)).trans (by simp [go_sem]))
  have q0 : (w1.alloc (.cells #[.slice (some ⟨g, o, none⟩) M cap, .int .i64 M] 81)).cell? ⟨w.heap.size + 1, 0, none⟩ = some (.string ⟨#[]⟩) := (B3.out.cell (p := ⟨w.heap.size + 1, 0, none⟩) (by simp; omega)).trans ((B1.out.cell (p := ⟨w.heap.size + 1, 0, none⟩) (by simp)).trans (by simp [go_sem]))
  have f0 : (w1.alloc (.cells #[.slice (some ⟨g, o, none⟩) M cap, .int .i64 M] 81)).frozen? ⟨w.heap.size + 1, 0, none⟩ = false := (B3.out.frozen (p := ⟨w.heap.size + 1, 0, none⟩) (by simp; omega)).trans ((B1.out.frozen (p := ⟨w.heap.size + 1, 0, none⟩) (by simp)).trans (by simp [go_sem]))
  have q1 : (w1.alloc (.cells #[.slice (some ⟨g, o, none⟩) M cap, .int .i64 M] 81)).cell? ⟨w.heap.size + 1, 1, none⟩ = some (.int .i64 0) := (B3.out.cell (p := ⟨w.heap.size + 1, 1, none⟩) (by simp; omega)).trans ((B1.out.cell (p := ⟨w.heap.size + 1, 1, none⟩) (by simp)).trans (by simp [go_sem]))
  have f1 : (w1.alloc (.cells #[.slice (some ⟨g, o, none⟩) M cap, .int .i64 M] 81)).frozen? ⟨w.heap.size + 1, 1, none⟩ = false := (B3.out.frozen (p := ⟨w.heap.size + 1, 1, none⟩) (by simp; omega)).trans ((B1.out.frozen (p := ⟨w.heap.size + 1, 1, none⟩) (by simp)).trans (by simp [go_sem]))
  have q2 : (w1.alloc (.cells #[.slice (some ⟨g, o, none⟩) M cap, .int .i64 M] 81)).cell? ⟨w.heap.size + 1, 2, none⟩ = some (.int .i64 0) := (B3.out.cell (p := ⟨w.heap.size + 1, 2, none⟩) (by simp; omega)).trans ((B1.out.cell (p := ⟨w.heap.size + 1, 2, none⟩) (by simp)).trans (by simp [go_sem]))
  have f2 : (w1.alloc (.cells #[.slice (some ⟨g, o, none⟩) M cap, .int .i64 M] 81)).frozen? ⟨w.heap.size + 1, 2, none⟩ = false := (B3.out.frozen (p := ⟨w.heap.size + 1, 2, none⟩) (by simp; omega)).trans ((B1.out.frozen (p := ⟨w.heap.size + 1, 2, none⟩) (by simp)).trans (by simp [go_sem]))
  have q3 : (w1.alloc (.cells #[.slice (some ⟨g, o, none⟩) M cap, .int .i64 M] 81)).cell? ⟨w.heap.size + 1, 3, none⟩ = some (.string ⟨#[]⟩) := (B3.out.cell (p := ⟨w.heap.size + 1, 3, none⟩) (by simp; omega)).trans ((B1.out.cell (p := ⟨w.heap.size + 1, 3, none⟩) (by simp)).trans (by simp [go_sem]))
  have f3 : (w1.alloc (.cells #[.slice (some ⟨g, o, none⟩) M cap, .int .i64 M] 81)).frozen? ⟨w.heap.size + 1, 3, none⟩ = false := (B3.out.frozen (p := ⟨w.heap.size + 1, 3, none⟩) (by simp; omega)).trans ((B1.out.frozen (p := ⟨w.heap.size + 1, 3, none⟩) (by simp)).trans (by simp [go_sem]))
  have q4 : (w1.alloc (.cells #[.slice (some ⟨g, o, none⟩) M cap, .int .i64 M] 81)).cell? ⟨w.heap.size + 1, 4, none⟩ = some (.string ⟨#[]⟩) := (B3.out.cell (p := ⟨w.heap.size + 1, 4, none⟩) (by simp; omega)).trans ((B1.out.cell (p := ⟨w.heap.size + 1, 4, none⟩) (by simp)).trans (by simp [go_sem]))
  have f4 : (w1.alloc (.cells #[.slice (some ⟨g, o, none⟩) M cap, .int .i64 M] 81)).frozen? ⟨w.heap.size + 1, 4, none⟩ = false := (B3.out.frozen (p := ⟨w.heap.size + 1, 4, none⟩) (by simp; omega)).trans ((B1.out.frozen (p := ⟨w.heap.size + 1, 4, none⟩) (by simp)).trans (by simp [go_sem]))
  have q5 : (w1.alloc (.cells #[.slice (some ⟨g, o, none⟩) M cap, .int .i64 M] 81)).cell? ⟨w.heap.size + 1, 5, none⟩ = some (.int .i64 0) := (B3.out.cell (p := ⟨w.heap.size + 1, 5, none⟩) (by simp; omega)).trans ((B1.out.cell (p := ⟨w.heap.size + 1, 5, none⟩) (by simp)).trans (by simp [go_sem]))
  have f5 : (w1.alloc (.cells #[.slice (some ⟨g, o, none⟩) M cap, .int .i64 M] 81)).frozen? ⟨w.heap.size + 1, 5, none⟩ = false := (B3.out.frozen (p := ⟨w.heap.size + 1, 5, none⟩) (by simp; omega)).trans ((B1.out.frozen (p := ⟨w.heap.size + 1, 5, none⟩) (by simp)).trans (by simp [go_sem]))
  have q6 : (w1.alloc (.cells #[.slice (some ⟨g, o, none⟩) M cap, .int .i64 M] 81)).cell? ⟨w.heap.size + 1, 6, none⟩ = some (.int .i64 0) := (B3.out.cell (p := ⟨w.heap.size + 1, 6, none⟩) (by simp; omega)).trans ((B1.out.cell (p := ⟨w.heap.size + 1, 6, none⟩) (by simp)).trans (by simp [go_sem]))
  have f6 : (w1.alloc (.cells #[.slice (some ⟨g, o, none⟩) M cap, .int .i64 M] 81)).frozen? ⟨w.heap.size + 1, 6, none⟩ = false := (B3.out.frozen (p := ⟨w.heap.size + 1, 6, none⟩) (by simp; omega)).trans ((B1.out.frozen (p := ⟨w.heap.size + 1, 6, none⟩) (by simp)).trans (by simp [go_sem]))
  have q7 : (w1.alloc (.cells #[.slice (some ⟨g, o, none⟩) M cap, .int .i64 M] 81)).cell? ⟨w.heap.size + 1, 7, none⟩ = some (.int .i64 0) := (B3.out.cell (p := ⟨w.heap.size + 1, 7, none⟩) (by simp; omega)).trans ((B1.out.cell (p := ⟨w.heap.size + 1, 7, none⟩) (by simp)).trans (by simp [go_sem]))
  have f7 : (w1.alloc (.cells #[.slice (some ⟨g, o, none⟩) M cap, .int .i64 M] 81)).frozen? ⟨w.heap.size + 1, 7, none⟩ = false := (B3.out.frozen (p := ⟨w.heap.size + 1, 7, none⟩) (by simp; omega)).trans ((B1.out.frozen (p := ⟨w.heap.size + 1, 7, none⟩) (by simp)).trans (by simp [go_sem]))
  have q8 : (w1.alloc (.cells #[.slice (some ⟨g, o, none⟩) M cap, .int .i64 M] 81)).cell? ⟨w.heap.size + 1, 8, none⟩ = some (.int .i64 0) := (B3.out.cell (p := ⟨w.heap.size + 1, 8, none⟩) (by simp; omega)).trans ((B1.out.cell (p := ⟨w.heap.size + 1, 8, none⟩) (by simp)).trans (by simp [go_sem]))
  have f8 : (w1.alloc (.cells #[.slice (some ⟨g, o, none⟩) M cap, .int .i64 M] 81)).frozen? ⟨w.heap.size + 1, 8, none⟩ = false := (B3.out.frozen (p := ⟨w.heap.size + 1, 8, none⟩) (by simp; omega)).trans ((B1.out.frozen (p := ⟨w.heap.size + 1, 8, none⟩) (by simp)).trans (by simp [go_sem]))
  go_wp2_with fail
  refine bodyPost_ret (v := .tuple #[.agg #[.slice (some ⟨g, o, none⟩) M cap, .int .i64 M], fz]) (by simp [results, Ybaz.results41, go_sem, fz, p0, p1, q0, q1, q2, q3, q4, q5, q6, q7, q8]) rfl ⟨rfl, ?_⟩
  exact ((HB.out.trans ((B1.out.mono (by omega)).trans (B3.out.mono (by omega)))).setCell (by simp) _).setCell (by simp) _

/-- The packet at the head of a row. -/
theorem cut_any (g o L cap n k : Nat) (w : World) (hg : g < w.heap.size) (hL : 4 + 4 * k ≤ L) (hLc : L ≤ cap) (hn : n ≤ 31) (hk : k ≤ 31)
    (c0 : w.cell? ⟨g, o, none⟩ = some (.int .u8 (128 + n))) (c2 : w.cell? ⟨g, o + 2, none⟩ = some (.int .u8 0)) (c3 : w.cell? ⟨g, o + 3, none⟩ = some (.int .u8 k)) :
    Calls Ybaz.prog 41 #[.slice (some ⟨g, o, none⟩) L cap] w fun e w' => e = .returned (.tuple #[.agg #[.slice (some ⟨g, o, none⟩) (4 + 4 * k) cap, .int .i64 (4 + 4 * k : Nat)], fz]) ∧ Below w.heap.size w w' :=
  cut_m g o L cap n k (4 + 4 * k) w (by omega) hg hL hLc hn hk c0 c2 c3

end Go.Proofs.YbulkdsruGreatDoor
