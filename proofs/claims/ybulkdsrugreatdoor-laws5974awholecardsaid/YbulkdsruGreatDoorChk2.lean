import Derived.Test.YbulkdsruGreatDoorChk
namespace Go.Proofs.YbulkdsruGreatDoor
open Go.RowKit Go.Op
set_option linter.unusedVariables false
set_option linter.unusedSimpArgs false

theorem setCell_id {w : World} {a : Addr} {v : Value} (h : w.cell? a = some v) : w.setCell a v = w := by
  have hh : (w.setCell a v).heap = w.heap := by
    unfold World.cell? at h
    split at h
    · rename_i c t f hb
      split at h
      · cases h
      · rename_i hs
        apply Array.ext_getElem?
        intro i
        unfold World.setCell
        rw [Array.getElem?_modify]
        split
        · rename_i e
          subst e
          rw [hb]
          simp only [Option.map_some]
          have e2 : c.setIfInBounds a.off v = c := by
            apply Array.ext_getElem?
            intro j
            rw [Array.getElem?_setIfInBounds]
            split
            · rename_i e; subst e
              split
              · exact h.symm
              · rename_i hn; rw [Array.getElem?_eq_none (by omega)] at h; cases h
            · rfl
          simp [hs, e2]
        · rfl
    · cases h
  calc w.setCell a v = { w with heap := (w.setCell a v).heap } := rfl
    _ = w := by rw [hh]

set_option maxRecDepth 8000 in
set_option maxHeartbeats 800000 in
attribute [local go_sem] setCell_id in
theorem check200 (g o len cap : Nat) (n v : Int) (w : World) (hg : g < w.heap.size) (hlc : len ≤ cap) (hc : w.cell? ⟨g, o, none⟩ = some (.int .u8 v)) (ht : w.cell? ⟨g, o + 1, none⟩ = some (.int .u8 200)) (hl : 28 ≤ len) (hv : bits .and .u8 v 31 = 0) :
    Calls Ybaz.prog 44 #[.agg #[.slice (some ⟨g, o, none⟩) len cap, .int .i64 n]] w fun e w' => e = .returned fz ∧ Below w.heap.size w w' := by
  have HG : Hid _ := hg
  have HB : Hid (Below w.heap.size w ((w.alloc (.cells #[.slice (some ⟨g, o, none⟩) len cap, .int .i64 n] 81)).alloc (.cells #[.string ⟨#[]⟩, .int .i64 0, .int .i64 0, .string ⟨#[]⟩, .string ⟨#[]⟩, .int .i64 0, .int .i64 0, .int .i64 0, .int .i64 0] 71))) := (((Below.refl _ w).alloc (Nat.le_refl _) _).alloc (by simp) _)
  have hU := type_any g o len cap n 200 ((w.alloc (.cells #[.slice (some ⟨g, o, none⟩) len cap, .int .i64 n] 81)).alloc (.cells #[.string ⟨#[]⟩, .int .i64 0, .int .i64 0, .string ⟨#[]⟩, .string ⟨#[]⟩, .int .i64 0, .int .i64 0, .int .i64 0, .int .i64 0] 71)) (by omega) (by simp; omega) ((HB.out.cell (p := ⟨g, o + 1, none⟩) hg).trans ht)
  have HC0 : Hid _ := (HB.out.cell (p := ⟨g, o, none⟩) hg).trans hc
  clear hc ht hg
  go_enter Ybaz.func44, Ybaz.ntmps44
  go_wp2_with fail
  go_at_call 43
  refine hU.mono ?_
  clear hU
  rintro e w1 ⟨rfl, hb1⟩
  have B1 : Hid (Below (w.heap.size + 2) ((w.alloc (.cells #[.slice (some ⟨g, o, none⟩) len cap, .int .i64 n] 81)).alloc (.cells #[.string ⟨#[]⟩, .int .i64 0, .int .i64 0, .string ⟨#[]⟩, .string ⟨#[]⟩, .int .i64 0, .int .i64 0, .int .i64 0, .int .i64 0] 71)) w1) := hb1.mono (by simp)
  have hcc : ∀ o', w1.cell? ⟨w.heap.size, o', none⟩ = ((w.alloc (.cells #[.slice (some ⟨g, o, none⟩) len cap, .int .i64 n] 81)).alloc (.cells #[.string ⟨#[]⟩, .int .i64 0, .int .i64 0, .string ⟨#[]⟩, .string ⟨#[]⟩, .int .i64 0, .int .i64 0, .int .i64 0, .int .i64 0] 71)).cell? ⟨w.heap.size, o', none⟩ := fun o' => B1.out.cell (p := ⟨w.heap.size, o', none⟩) (by simp)
  have HC1 : Hid (w1.cell? ⟨g, o, none⟩ = some (.int .u8 v)) := (B1.out.cell (p := ⟨g, o, none⟩) (by have := HG.out; simp; omega)).trans HC0.out
  have Z1 : Hid (w.heap.size + 2 ≤ w1.heap.size) := by have := B1.out.size; simp at this; exact this
  clear hb1
  go_wp2_with fail
  go_at_call 53
  refine (rep_any _ g o len cap 28 v _ (by have := Z1.out; have := HG.out; omega) (by omega) (by omega) (by omega) (HC1.out) hv).mono ?_
  rintro e w2 ⟨rfl, hb2⟩
  have B2 : Hid (Below (w.heap.size + 2) ((w.alloc (.cells #[.slice (some ⟨g, o, none⟩) len cap, .int .i64 n] 81)).alloc (.cells #[.string ⟨#[]⟩, .int .i64 0, .int .i64 0, .string ⟨#[]⟩, .string ⟨#[]⟩, .int .i64 0, .int .i64 0, .int .i64 0, .int .i64 0] 71)) w2) := B1.out.trans (hb2.mono Z1.out)
  clear hcc
  have q0 : w2.cell? ⟨w.heap.size + 1, 0, none⟩ = some (.string ⟨#[]⟩) := (B2.out.cell (p := ⟨w.heap.size + 1, 0, none⟩) (by simp)).trans (by simp [go_sem])
  have f0 : w2.frozen? ⟨w.heap.size + 1, 0, none⟩ = false := (B2.out.frozen (p := ⟨w.heap.size + 1, 0, none⟩) (by simp)).trans (by simp [go_sem])
  have q1 : w2.cell? ⟨w.heap.size + 1, 1, none⟩ = some (.int .i64 0) := (B2.out.cell (p := ⟨w.heap.size + 1, 1, none⟩) (by simp)).trans (by simp [go_sem])
  have f1 : w2.frozen? ⟨w.heap.size + 1, 1, none⟩ = false := (B2.out.frozen (p := ⟨w.heap.size + 1, 1, none⟩) (by simp)).trans (by simp [go_sem])
  have q2 : w2.cell? ⟨w.heap.size + 1, 2, none⟩ = some (.int .i64 0) := (B2.out.cell (p := ⟨w.heap.size + 1, 2, none⟩) (by simp)).trans (by simp [go_sem])
  have f2 : w2.frozen? ⟨w.heap.size + 1, 2, none⟩ = false := (B2.out.frozen (p := ⟨w.heap.size + 1, 2, none⟩) (by simp)).trans (by simp [go_sem])
  have q3 : w2.cell? ⟨w.heap.size + 1, 3, none⟩ = some (.string ⟨#[]⟩) := (B2.out.cell (p := ⟨w.heap.size + 1, 3, none⟩) (by simp)).trans (by simp [go_sem])
  have f3 : w2.frozen? ⟨w.heap.size + 1, 3, none⟩ = false := (B2.out.frozen (p := ⟨w.heap.size + 1, 3, none⟩) (by simp)).trans (by simp [go_sem])
  have q4 : w2.cell? ⟨w.heap.size + 1, 4, none⟩ = some (.string ⟨#[]⟩) := (B2.out.cell (p := ⟨w.heap.size + 1, 4, none⟩) (by simp)).trans (by simp [go_sem])
  have f4 : w2.frozen? ⟨w.heap.size + 1, 4, none⟩ = false := (B2.out.frozen (p := ⟨w.heap.size + 1, 4, none⟩) (by simp)).trans (by simp [go_sem])
  have q5 : w2.cell? ⟨w.heap.size + 1, 5, none⟩ = some (.int .i64 0) := (B2.out.cell (p := ⟨w.heap.size + 1, 5, none⟩) (by simp)).trans (by simp [go_sem])
  have f5 : w2.frozen? ⟨w.heap.size + 1, 5, none⟩ = false := (B2.out.frozen (p := ⟨w.heap.size + 1, 5, none⟩) (by simp)).trans (by simp [go_sem])
  have q6 : w2.cell? ⟨w.heap.size + 1, 6, none⟩ = some (.int .i64 0) := (B2.out.cell (p := ⟨w.heap.size + 1, 6, none⟩) (by simp)).trans (by simp [go_sem])
  have f6 : w2.frozen? ⟨w.heap.size + 1, 6, none⟩ = false := (B2.out.frozen (p := ⟨w.heap.size + 1, 6, none⟩) (by simp)).trans (by simp [go_sem])
  have q7 : w2.cell? ⟨w.heap.size + 1, 7, none⟩ = some (.int .i64 0) := (B2.out.cell (p := ⟨w.heap.size + 1, 7, none⟩) (by simp)).trans (by simp [go_sem])
  have f7 : w2.frozen? ⟨w.heap.size + 1, 7, none⟩ = false := (B2.out.frozen (p := ⟨w.heap.size + 1, 7, none⟩) (by simp)).trans (by simp [go_sem])
  have q8 : w2.cell? ⟨w.heap.size + 1, 8, none⟩ = some (.int .i64 0) := (B2.out.cell (p := ⟨w.heap.size + 1, 8, none⟩) (by simp)).trans (by simp [go_sem])
  have f8 : w2.frozen? ⟨w.heap.size + 1, 8, none⟩ = false := (B2.out.frozen (p := ⟨w.heap.size + 1, 8, none⟩) (by simp)).trans (by simp [go_sem])
  have hz : w.heap.size + 1 < w2.heap.size := by have := B2.out.size; simp at this; omega
  clear hb2
  unfold fz
  go_wp2_with fail
  refine bodyPost_ret (v := .agg #[.string ⟨#[]⟩, .int .i64 0, .int .i64 0, .string ⟨#[]⟩, .string ⟨#[]⟩, .int .i64 0, .int .i64 0, .int .i64 0, .int .i64 0]) (by simp [results, Ybaz.results44, go_sem, hz, q0, q1, q2, q3, q4, q5, q6, q7, q8]) rfl ⟨rfl, HB.out.trans (B2.out.mono (by omega))⟩

set_option maxRecDepth 8000 in
set_option maxHeartbeats 800000 in
attribute [local go_sem] setCell_id in
theorem check201 (g o len cap : Nat) (n v : Int) (w : World) (hg : g < w.heap.size) (hlc : len ≤ cap) (hc : w.cell? ⟨g, o, none⟩ = some (.int .u8 v)) (ht : w.cell? ⟨g, o + 1, none⟩ = some (.int .u8 201)) (hl : 8 ≤ len) (hv : bits .and .u8 v 31 = 0) :
    Calls Ybaz.prog 44 #[.agg #[.slice (some ⟨g, o, none⟩) len cap, .int .i64 n]] w fun e w' => e = .returned fz ∧ Below w.heap.size w w' := by
  have HG : Hid _ := hg
  have HB : Hid (Below w.heap.size w ((w.alloc (.cells #[.slice (some ⟨g, o, none⟩) len cap, .int .i64 n] 81)).alloc (.cells #[.string ⟨#[]⟩, .int .i64 0, .int .i64 0, .string ⟨#[]⟩, .string ⟨#[]⟩, .int .i64 0, .int .i64 0, .int .i64 0, .int .i64 0] 71))) := (((Below.refl _ w).alloc (Nat.le_refl _) _).alloc (by simp) _)
  have hU := type_any g o len cap n 201 ((w.alloc (.cells #[.slice (some ⟨g, o, none⟩) len cap, .int .i64 n] 81)).alloc (.cells #[.string ⟨#[]⟩, .int .i64 0, .int .i64 0, .string ⟨#[]⟩, .string ⟨#[]⟩, .int .i64 0, .int .i64 0, .int .i64 0, .int .i64 0] 71)) (by omega) (by simp; omega) ((HB.out.cell (p := ⟨g, o + 1, none⟩) hg).trans ht)
  have HC0 : Hid _ := (HB.out.cell (p := ⟨g, o, none⟩) hg).trans hc
  clear hc ht hg
  go_enter Ybaz.func44, Ybaz.ntmps44
  go_wp2_with fail
  go_at_call 43
  refine hU.mono ?_
  clear hU
  rintro e w1 ⟨rfl, hb1⟩
  have B1 : Hid (Below (w.heap.size + 2) ((w.alloc (.cells #[.slice (some ⟨g, o, none⟩) len cap, .int .i64 n] 81)).alloc (.cells #[.string ⟨#[]⟩, .int .i64 0, .int .i64 0, .string ⟨#[]⟩, .string ⟨#[]⟩, .int .i64 0, .int .i64 0, .int .i64 0, .int .i64 0] 71)) w1) := hb1.mono (by simp)
  have hcc : ∀ o', w1.cell? ⟨w.heap.size, o', none⟩ = ((w.alloc (.cells #[.slice (some ⟨g, o, none⟩) len cap, .int .i64 n] 81)).alloc (.cells #[.string ⟨#[]⟩, .int .i64 0, .int .i64 0, .string ⟨#[]⟩, .string ⟨#[]⟩, .int .i64 0, .int .i64 0, .int .i64 0, .int .i64 0] 71)).cell? ⟨w.heap.size, o', none⟩ := fun o' => B1.out.cell (p := ⟨w.heap.size, o', none⟩) (by simp)
  have HC1 : Hid (w1.cell? ⟨g, o, none⟩ = some (.int .u8 v)) := (B1.out.cell (p := ⟨g, o, none⟩) (by have := HG.out; simp; omega)).trans HC0.out
  have Z1 : Hid (w.heap.size + 2 ≤ w1.heap.size) := by have := B1.out.size; simp at this; exact this
  clear hb1
  go_wp2_with fail
  go_at_call 53
  refine (rep_any _ g o len cap 8 v _ (by have := Z1.out; have := HG.out; omega) (by omega) (by omega) (by omega) (HC1.out) hv).mono ?_
  rintro e w2 ⟨rfl, hb2⟩
  have B2 : Hid (Below (w.heap.size + 2) ((w.alloc (.cells #[.slice (some ⟨g, o, none⟩) len cap, .int .i64 n] 81)).alloc (.cells #[.string ⟨#[]⟩, .int .i64 0, .int .i64 0, .string ⟨#[]⟩, .string ⟨#[]⟩, .int .i64 0, .int .i64 0, .int .i64 0, .int .i64 0] 71)) w2) := B1.out.trans (hb2.mono Z1.out)
  clear hcc
  have q0 : w2.cell? ⟨w.heap.size + 1, 0, none⟩ = some (.string ⟨#[]⟩) := (B2.out.cell (p := ⟨w.heap.size + 1, 0, none⟩) (by simp)).trans (by simp [go_sem])
  have f0 : w2.frozen? ⟨w.heap.size + 1, 0, none⟩ = false := (B2.out.frozen (p := ⟨w.heap.size + 1, 0, none⟩) (by simp)).trans (by simp [go_sem])
  have q1 : w2.cell? ⟨w.heap.size + 1, 1, none⟩ = some (.int .i64 0) := (B2.out.cell (p := ⟨w.heap.size + 1, 1, none⟩) (by simp)).trans (by simp [go_sem])
  have f1 : w2.frozen? ⟨w.heap.size + 1, 1, none⟩ = false := (B2.out.frozen (p := ⟨w.heap.size + 1, 1, none⟩) (by simp)).trans (by simp [go_sem])
  have q2 : w2.cell? ⟨w.heap.size + 1, 2, none⟩ = some (.int .i64 0) := (B2.out.cell (p := ⟨w.heap.size + 1, 2, none⟩) (by simp)).trans (by simp [go_sem])
  have f2 : w2.frozen? ⟨w.heap.size + 1, 2, none⟩ = false := (B2.out.frozen (p := ⟨w.heap.size + 1, 2, none⟩) (by simp)).trans (by simp [go_sem])
  have q3 : w2.cell? ⟨w.heap.size + 1, 3, none⟩ = some (.string ⟨#[]⟩) := (B2.out.cell (p := ⟨w.heap.size + 1, 3, none⟩) (by simp)).trans (by simp [go_sem])
  have f3 : w2.frozen? ⟨w.heap.size + 1, 3, none⟩ = false := (B2.out.frozen (p := ⟨w.heap.size + 1, 3, none⟩) (by simp)).trans (by simp [go_sem])
  have q4 : w2.cell? ⟨w.heap.size + 1, 4, none⟩ = some (.string ⟨#[]⟩) := (B2.out.cell (p := ⟨w.heap.size + 1, 4, none⟩) (by simp)).trans (by simp [go_sem])
  have f4 : w2.frozen? ⟨w.heap.size + 1, 4, none⟩ = false := (B2.out.frozen (p := ⟨w.heap.size + 1, 4, none⟩) (by simp)).trans (by simp [go_sem])
  have q5 : w2.cell? ⟨w.heap.size + 1, 5, none⟩ = some (.int .i64 0) := (B2.out.cell (p := ⟨w.heap.size + 1, 5, none⟩) (by simp)).trans (by simp [go_sem])
  have f5 : w2.frozen? ⟨w.heap.size + 1, 5, none⟩ = false := (B2.out.frozen (p := ⟨w.heap.size + 1, 5, none⟩) (by simp)).trans (by simp [go_sem])
  have q6 : w2.cell? ⟨w.heap.size + 1, 6, none⟩ = some (.int .i64 0) := (B2.out.cell (p := ⟨w.heap.size + 1, 6, none⟩) (by simp)).trans (by simp [go_sem])
  have f6 : w2.frozen? ⟨w.heap.size + 1, 6, none⟩ = false := (B2.out.frozen (p := ⟨w.heap.size + 1, 6, none⟩) (by simp)).trans (by simp [go_sem])
  have q7 : w2.cell? ⟨w.heap.size + 1, 7, none⟩ = some (.int .i64 0) := (B2.out.cell (p := ⟨w.heap.size + 1, 7, none⟩) (by simp)).trans (by simp [go_sem])
  have f7 : w2.frozen? ⟨w.heap.size + 1, 7, none⟩ = false := (B2.out.frozen (p := ⟨w.heap.size + 1, 7, none⟩) (by simp)).trans (by simp [go_sem])
  have q8 : w2.cell? ⟨w.heap.size + 1, 8, none⟩ = some (.int .i64 0) := (B2.out.cell (p := ⟨w.heap.size + 1, 8, none⟩) (by simp)).trans (by simp [go_sem])
  have f8 : w2.frozen? ⟨w.heap.size + 1, 8, none⟩ = false := (B2.out.frozen (p := ⟨w.heap.size + 1, 8, none⟩) (by simp)).trans (by simp [go_sem])
  have hz : w.heap.size + 1 < w2.heap.size := by have := B2.out.size; simp at this; omega
  clear hb2
  unfold fz
  go_wp2_with fail
  refine bodyPost_ret (v := .agg #[.string ⟨#[]⟩, .int .i64 0, .int .i64 0, .string ⟨#[]⟩, .string ⟨#[]⟩, .int .i64 0, .int .i64 0, .int .i64 0, .int .i64 0]) (by simp [results, Ybaz.results44, go_sem, hz, q0, q1, q2, q3, q4, q5, q6, q7, q8]) rfl ⟨rfl, HB.out.trans (B2.out.mono (by omega))⟩

set_option maxRecDepth 8000 in
set_option maxHeartbeats 800000 in
attribute [local go_sem] setCell_id in
theorem check202 (g o len cap : Nat) (n v : Int) (w : World) (hg : g < w.heap.size) (hlc : len ≤ cap) (hc : w.cell? ⟨g, o, none⟩ = some (.int .u8 v)) (ht : w.cell? ⟨g, o + 1, none⟩ = some (.int .u8 202)) (hl : 4 ≤ len) (hv : bits .and .u8 v 31 = 0) :
    Calls Ybaz.prog 44 #[.agg #[.slice (some ⟨g, o, none⟩) len cap, .int .i64 n]] w fun e w' => e = .returned fz ∧ Below w.heap.size w w' := by
  have HG : Hid _ := hg
  have HB : Hid (Below w.heap.size w ((w.alloc (.cells #[.slice (some ⟨g, o, none⟩) len cap, .int .i64 n] 81)).alloc (.cells #[.string ⟨#[]⟩, .int .i64 0, .int .i64 0, .string ⟨#[]⟩, .string ⟨#[]⟩, .int .i64 0, .int .i64 0, .int .i64 0, .int .i64 0] 71))) := (((Below.refl _ w).alloc (Nat.le_refl _) _).alloc (by simp) _)
  have hU := type_any g o len cap n 202 ((w.alloc (.cells #[.slice (some ⟨g, o, none⟩) len cap, .int .i64 n] 81)).alloc (.cells #[.string ⟨#[]⟩, .int .i64 0, .int .i64 0, .string ⟨#[]⟩, .string ⟨#[]⟩, .int .i64 0, .int .i64 0, .int .i64 0, .int .i64 0] 71)) (by omega) (by simp; omega) ((HB.out.cell (p := ⟨g, o + 1, none⟩) hg).trans ht)
  have HC0 : Hid _ := (HB.out.cell (p := ⟨g, o, none⟩) hg).trans hc
  clear hc ht hg
  go_enter Ybaz.func44, Ybaz.ntmps44
  go_wp2_with fail
  go_at_call 43
  refine hU.mono ?_
  clear hU
  rintro e w1 ⟨rfl, hb1⟩
  have B1 : Hid (Below (w.heap.size + 2) ((w.alloc (.cells #[.slice (some ⟨g, o, none⟩) len cap, .int .i64 n] 81)).alloc (.cells #[.string ⟨#[]⟩, .int .i64 0, .int .i64 0, .string ⟨#[]⟩, .string ⟨#[]⟩, .int .i64 0, .int .i64 0, .int .i64 0, .int .i64 0] 71)) w1) := hb1.mono (by simp)
  have hcc : ∀ o', w1.cell? ⟨w.heap.size, o', none⟩ = ((w.alloc (.cells #[.slice (some ⟨g, o, none⟩) len cap, .int .i64 n] 81)).alloc (.cells #[.string ⟨#[]⟩, .int .i64 0, .int .i64 0, .string ⟨#[]⟩, .string ⟨#[]⟩, .int .i64 0, .int .i64 0, .int .i64 0, .int .i64 0] 71)).cell? ⟨w.heap.size, o', none⟩ := fun o' => B1.out.cell (p := ⟨w.heap.size, o', none⟩) (by simp)
  have HC1 : Hid (w1.cell? ⟨g, o, none⟩ = some (.int .u8 v)) := (B1.out.cell (p := ⟨g, o, none⟩) (by have := HG.out; simp; omega)).trans HC0.out
  have Z1 : Hid (w.heap.size + 2 ≤ w1.heap.size) := by have := B1.out.size; simp at this; exact this
  clear hb1
  go_wp2_with fail
  go_at_call 54
  refine (sdes_any g o len cap v _ (by have := Z1.out; have := HG.out; omega) (by omega) (by omega) (HC1.out) hv).mono ?_
  rintro e w2 ⟨rfl, hb2⟩
  have B2 : Hid (Below (w.heap.size + 2) ((w.alloc (.cells #[.slice (some ⟨g, o, none⟩) len cap, .int .i64 n] 81)).alloc (.cells #[.string ⟨#[]⟩, .int .i64 0, .int .i64 0, .string ⟨#[]⟩, .string ⟨#[]⟩, .int .i64 0, .int .i64 0, .int .i64 0, .int .i64 0] 71)) w2) := B1.out.trans (hb2.mono Z1.out)
  clear hcc
  have q0 : w2.cell? ⟨w.heap.size + 1, 0, none⟩ = some (.string ⟨#[]⟩) := (B2.out.cell (p := ⟨w.heap.size + 1, 0, none⟩) (by simp)).trans (by simp [go_sem])
  have f0 : w2.frozen? ⟨w.heap.size + 1, 0, none⟩ = false := (B2.out.frozen (p := ⟨w.heap.size + 1, 0, none⟩) (by simp)).trans (by simp [go_sem])
  have q1 : w2.cell? ⟨w.heap.size + 1, 1, none⟩ = some (.int .i64 0) := (B2.out.cell (p := ⟨w.heap.size + 1, 1, none⟩) (by simp)).trans (by simp [go_sem])
  have f1 : w2.frozen? ⟨w.heap.size + 1, 1, none⟩ = false := (B2.out.frozen (p := ⟨w.heap.size + 1, 1, none⟩) (by simp)).trans (by simp [go_sem])
  have q2 : w2.cell? ⟨w.heap.size + 1, 2, none⟩ = some (.int .i64 0) := (B2.out.cell (p := ⟨w.heap.size + 1, 2, none⟩) (by simp)).trans (by simp [go_sem])
  have f2 : w2.frozen? ⟨w.heap.size + 1, 2, none⟩ = false := (B2.out.frozen (p := ⟨w.heap.size + 1, 2, none⟩) (by simp)).trans (by simp [go_sem])
  have q3 : w2.cell? ⟨w.heap.size + 1, 3, none⟩ = some (.string ⟨#[]⟩) := (B2.out.cell (p := ⟨w.heap.size + 1, 3, none⟩) (by simp)).trans (by simp [go_sem])
  have f3 : w2.frozen? ⟨w.heap.size + 1, 3, none⟩ = false := (B2.out.frozen (p := ⟨w.heap.size + 1, 3, none⟩) (by simp)).trans (by simp [go_sem])
  have q4 : w2.cell? ⟨w.heap.size + 1, 4, none⟩ = some (.string ⟨#[]⟩) := (B2.out.cell (p := ⟨w.heap.size + 1, 4, none⟩) (by simp)).trans (by simp [go_sem])
  have f4 : w2.frozen? ⟨w.heap.size + 1, 4, none⟩ = false := (B2.out.frozen (p := ⟨w.heap.size + 1, 4, none⟩) (by simp)).trans (by simp [go_sem])
  have q5 : w2.cell? ⟨w.heap.size + 1, 5, none⟩ = some (.int .i64 0) := (B2.out.cell (p := ⟨w.heap.size + 1, 5, none⟩) (by simp)).trans (by simp [go_sem])
  have f5 : w2.frozen? ⟨w.heap.size + 1, 5, none⟩ = false := (B2.out.frozen (p := ⟨w.heap.size + 1, 5, none⟩) (by simp)).trans (by simp [go_sem])
  have q6 : w2.cell? ⟨w.heap.size + 1, 6, none⟩ = some (.int .i64 0) := (B2.out.cell (p := ⟨w.heap.size + 1, 6, none⟩) (by simp)).trans (by simp [go_sem])
  have f6 : w2.frozen? ⟨w.heap.size + 1, 6, none⟩ = false := (B2.out.frozen (p := ⟨w.heap.size + 1, 6, none⟩) (by simp)).trans (by simp [go_sem])
  have q7 : w2.cell? ⟨w.heap.size + 1, 7, none⟩ = some (.int .i64 0) := (B2.out.cell (p := ⟨w.heap.size + 1, 7, none⟩) (by simp)).trans (by simp [go_sem])
  have f7 : w2.frozen? ⟨w.heap.size + 1, 7, none⟩ = false := (B2.out.frozen (p := ⟨w.heap.size + 1, 7, none⟩) (by simp)).trans (by simp [go_sem])
  have q8 : w2.cell? ⟨w.heap.size + 1, 8, none⟩ = some (.int .i64 0) := (B2.out.cell (p := ⟨w.heap.size + 1, 8, none⟩) (by simp)).trans (by simp [go_sem])
  have f8 : w2.frozen? ⟨w.heap.size + 1, 8, none⟩ = false := (B2.out.frozen (p := ⟨w.heap.size + 1, 8, none⟩) (by simp)).trans (by simp [go_sem])
  have hz : w.heap.size + 1 < w2.heap.size := by have := B2.out.size; simp at this; omega
  clear hb2
  unfold fz
  go_wp2_with fail
  refine bodyPost_ret (v := .agg #[.string ⟨#[]⟩, .int .i64 0, .int .i64 0, .string ⟨#[]⟩, .string ⟨#[]⟩, .int .i64 0, .int .i64 0, .int .i64 0, .int .i64 0]) (by simp [results, Ybaz.results44, go_sem, hz, q0, q1, q2, q3, q4, q5, q6, q7, q8]) rfl ⟨rfl, HB.out.trans (B2.out.mono (by omega))⟩

set_option maxRecDepth 8000 in
set_option maxHeartbeats 800000 in
attribute [local go_sem] setCell_id in
theorem check203 (g o len cap : Nat) (n v : Int) (w : World) (hg : g < w.heap.size) (hlc : len ≤ cap) (hc : w.cell? ⟨g, o, none⟩ = some (.int .u8 v)) (ht : w.cell? ⟨g, o + 1, none⟩ = some (.int .u8 203)) (m : Nat) (hm : m ≤ 31) (hl : len = 4 + 4 * m) (hv : bits .and .u8 v 31 = m) :
    Calls Ybaz.prog 44 #[.agg #[.slice (some ⟨g, o, none⟩) len cap, .int .i64 n]] w fun e w' => e = .returned fz ∧ Below w.heap.size w w' := by
  subst hl
  have HG : Hid _ := hg
  have HB : Hid (Below w.heap.size w ((w.alloc (.cells #[.slice (some ⟨g, o, none⟩) (4 + 4 * m) cap, .int .i64 n] 81)).alloc (.cells #[.string ⟨#[]⟩, .int .i64 0, .int .i64 0, .string ⟨#[]⟩, .string ⟨#[]⟩, .int .i64 0, .int .i64 0, .int .i64 0, .int .i64 0] 71))) := (((Below.refl _ w).alloc (Nat.le_refl _) _).alloc (by simp) _)
  have hU := type_any g o (4 + 4 * m) cap n 203 ((w.alloc (.cells #[.slice (some ⟨g, o, none⟩) (4 + 4 * m) cap, .int .i64 n] 81)).alloc (.cells #[.string ⟨#[]⟩, .int .i64 0, .int .i64 0, .string ⟨#[]⟩, .string ⟨#[]⟩, .int .i64 0, .int .i64 0, .int .i64 0, .int .i64 0] 71)) (by omega) (by simp; omega) ((HB.out.cell (p := ⟨g, o + 1, none⟩) hg).trans ht)
  have HC0 : Hid _ := (HB.out.cell (p := ⟨g, o, none⟩) hg).trans hc
  clear hc ht hg
  go_enter Ybaz.func44, Ybaz.ntmps44
  go_wp2_with fail
  go_at_call 43
  refine hU.mono ?_
  clear hU
  rintro e w1 ⟨rfl, hb1⟩
  have B1 : Hid (Below (w.heap.size + 2) ((w.alloc (.cells #[.slice (some ⟨g, o, none⟩) (4 + 4 * m) cap, .int .i64 n] 81)).alloc (.cells #[.string ⟨#[]⟩, .int .i64 0, .int .i64 0, .string ⟨#[]⟩, .string ⟨#[]⟩, .int .i64 0, .int .i64 0, .int .i64 0, .int .i64 0] 71)) w1) := hb1.mono (by simp)
  have hcc : ∀ o', w1.cell? ⟨w.heap.size, o', none⟩ = ((w.alloc (.cells #[.slice (some ⟨g, o, none⟩) (4 + 4 * m) cap, .int .i64 n] 81)).alloc (.cells #[.string ⟨#[]⟩, .int .i64 0, .int .i64 0, .string ⟨#[]⟩, .string ⟨#[]⟩, .int .i64 0, .int .i64 0, .int .i64 0, .int .i64 0] 71)).cell? ⟨w.heap.size, o', none⟩ := fun o' => B1.out.cell (p := ⟨w.heap.size, o', none⟩) (by simp)
  have HC1 : Hid (w1.cell? ⟨g, o, none⟩ = some (.int .u8 v)) := (B1.out.cell (p := ⟨g, o, none⟩) (by have := HG.out; simp; omega)).trans HC0.out
  have Z1 : Hid (w.heap.size + 2 ≤ w1.heap.size) := by have := B1.out.size; simp at this; exact this
  clear hb1
  go_wp2_with fail
  go_at_call 55
  refine (byec_any g o m cap v _ (by have := Z1.out; have := HG.out; omega) hm (HC1.out) hv).mono ?_
  rintro e w2 ⟨rfl, hb2⟩
  have B2 : Hid (Below (w.heap.size + 2) ((w.alloc (.cells #[.slice (some ⟨g, o, none⟩) (4 + 4 * m) cap, .int .i64 n] 81)).alloc (.cells #[.string ⟨#[]⟩, .int .i64 0, .int .i64 0, .string ⟨#[]⟩, .string ⟨#[]⟩, .int .i64 0, .int .i64 0, .int .i64 0, .int .i64 0] 71)) w2) := B1.out.trans (hb2.mono Z1.out)
  clear hcc
  have q0 : w2.cell? ⟨w.heap.size + 1, 0, none⟩ = some (.string ⟨#[]⟩) := (B2.out.cell (p := ⟨w.heap.size + 1, 0, none⟩) (by simp)).trans (by simp [go_sem])
  have f0 : w2.frozen? ⟨w.heap.size + 1, 0, none⟩ = false := (B2.out.frozen (p := ⟨w.heap.size + 1, 0, none⟩) (by simp)).trans (by simp [go_sem])
  have q1 : w2.cell? ⟨w.heap.size + 1, 1, none⟩ = some (.int .i64 0) := (B2.out.cell (p := ⟨w.heap.size + 1, 1, none⟩) (by simp)).trans (by simp [go_sem])
  have f1 : w2.frozen? ⟨w.heap.size + 1, 1, none⟩ = false := (B2.out.frozen (p := ⟨w.heap.size + 1, 1, none⟩) (by simp)).trans (by simp [go_sem])
  have q2 : w2.cell? ⟨w.heap.size + 1, 2, none⟩ = some (.int .i64 0) := (B2.out.cell (p := ⟨w.heap.size + 1, 2, none⟩) (by simp)).trans (by simp [go_sem])
  have f2 : w2.frozen? ⟨w.heap.size + 1, 2, none⟩ = false := (B2.out.frozen (p := ⟨w.heap.size + 1, 2, none⟩) (by simp)).trans (by simp [go_sem])
  have q3 : w2.cell? ⟨w.heap.size + 1, 3, none⟩ = some (.string ⟨#[]⟩) := (B2.out.cell (p := ⟨w.heap.size + 1, 3, none⟩) (by simp)).trans (by simp [go_sem])
  have f3 : w2.frozen? ⟨w.heap.size + 1, 3, none⟩ = false := (B2.out.frozen (p := ⟨w.heap.size + 1, 3, none⟩) (by simp)).trans (by simp [go_sem])
  have q4 : w2.cell? ⟨w.heap.size + 1, 4, none⟩ = some (.string ⟨#[]⟩) := (B2.out.cell (p := ⟨w.heap.size + 1, 4, none⟩) (by simp)).trans (by simp [go_sem])
  have f4 : w2.frozen? ⟨w.heap.size + 1, 4, none⟩ = false := (B2.out.frozen (p := ⟨w.heap.size + 1, 4, none⟩) (by simp)).trans (by simp [go_sem])
  have q5 : w2.cell? ⟨w.heap.size + 1, 5, none⟩ = some (.int .i64 0) := (B2.out.cell (p := ⟨w.heap.size + 1, 5, none⟩) (by simp)).trans (by simp [go_sem])
  have f5 : w2.frozen? ⟨w.heap.size + 1, 5, none⟩ = false := (B2.out.frozen (p := ⟨w.heap.size + 1, 5, none⟩) (by simp)).trans (by simp [go_sem])
  have q6 : w2.cell? ⟨w.heap.size + 1, 6, none⟩ = some (.int .i64 0) := (B2.out.cell (p := ⟨w.heap.size + 1, 6, none⟩) (by simp)).trans (by simp [go_sem])
  have f6 : w2.frozen? ⟨w.heap.size + 1, 6, none⟩ = false := (B2.out.frozen (p := ⟨w.heap.size + 1, 6, none⟩) (by simp)).trans (by simp [go_sem])
  have q7 : w2.cell? ⟨w.heap.size + 1, 7, none⟩ = some (.int .i64 0) := (B2.out.cell (p := ⟨w.heap.size + 1, 7, none⟩) (by simp)).trans (by simp [go_sem])
  have f7 : w2.frozen? ⟨w.heap.size + 1, 7, none⟩ = false := (B2.out.frozen (p := ⟨w.heap.size + 1, 7, none⟩) (by simp)).trans (by simp [go_sem])
  have q8 : w2.cell? ⟨w.heap.size + 1, 8, none⟩ = some (.int .i64 0) := (B2.out.cell (p := ⟨w.heap.size + 1, 8, none⟩) (by simp)).trans (by simp [go_sem])
  have f8 : w2.frozen? ⟨w.heap.size + 1, 8, none⟩ = false := (B2.out.frozen (p := ⟨w.heap.size + 1, 8, none⟩) (by simp)).trans (by simp [go_sem])
  have hz : w.heap.size + 1 < w2.heap.size := by have := B2.out.size; simp at this; omega
  clear hb2
  unfold fz
  go_wp2_with fail
  refine bodyPost_ret (v := .agg #[.string ⟨#[]⟩, .int .i64 0, .int .i64 0, .string ⟨#[]⟩, .string ⟨#[]⟩, .int .i64 0, .int .i64 0, .int .i64 0, .int .i64 0]) (by simp [results, Ybaz.results44, go_sem, hz, q0, q1, q2, q3, q4, q5, q6, q7, q8]) rfl ⟨rfl, HB.out.trans (B2.out.mono (by omega))⟩

end Go.Proofs.YbulkdsruGreatDoor
