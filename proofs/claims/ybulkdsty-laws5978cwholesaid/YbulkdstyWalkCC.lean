import Derived.Test.YbulkdstyWalkA2
import Derived.Test.YbulkdstyHalf
namespace Go.Proofs.Ybulkdsty
open Go.RowKit
set_option linter.unusedVariables false

attribute [local go_sem] store_float

theorem cn_mhalf : cn 13826050856027422720 = cn mhalf := rfl
theorem cn_dtwo : cn 4611686018427387904 = cn dtwo := rfl

theorem neg_float (x : Nat) : Op.unary .neg (.float .f64 x) = pure (.float .f64 (Op.negFloat .f64 x)) := rfl

/-- The vertex, from the quotient's word q. -/
def vert (xm step q : Nat) : Nat := fop .add xm (fop .mul (fop .mul q (cn mhalf)) step)

set_option maxHeartbeats 400000 in
theorem vertex_any (xm step ym d0 d1 d2 d3 : Nat) (five : Bool) (w : World)  :
    Calls Yba.prog 12 #[.agg #[.float .f64 xm, .float .f64 step, .float .f64 ym, .float .f64 d0, .float .f64 d1, .float .f64 d2, .float .f64 d3, .bool five]] w fun e w' => ∃ r, e = .returned (.float .f64 r) ∧ cn r = vert (cn xm) (cn step) (fop .quo (cn d0) (cn d1)) ∧ Below w.heap.size w w' := by
  have hng := neg_float
  go_enter Yba.func12, Yba.ntmps12
  go_wp2_with fail
  refine upon_float (by simp) ?_
  intro r1 n1 s1
  go_wp2_with fail
  refine upon_float (by simp) ?_
  intro r2 n2 s2
  go_wp2_with fail
  refine upon_float (by simp) ?_
  intro r3 n3 s3
  go_wp2_with fail
  refine upon_float (by simp) ?_
  intro r4 n4 s4
  go_wp2_with fail
  go_ret
  refine ⟨r4, rfl, ?_, below_drewN ((Below.refl _ _).alloc (Nat.le_refl _) _) _⟩
  rw [s4.out, s3.out, s2.out, cn_dtwo, fop_cn .quo, half_law, ← fop_cn .mul r1 mhalf, s1.out]
  rfl

set_option maxHeartbeats 400000 in
theorem law_c (xm step ym d0 d1 d2 d3 : Nat) (five : Bool) (w : World)  :
    Calls Yba.prog 6 #[.float .f64 xm, .float .f64 step, .float .f64 ym, .float .f64 d0, .float .f64 d1, .float .f64 d2, .float .f64 d3, .bool five] w fun e w' => e = .returned (.bool true) ∧ Below w.heap.size w w' := by
  go_enter Yba.func6, Yba.ntmps6
  go_wp2_with fail
  refine (vertex_any _ _ _ _ _ _ _ _ _).mono ?_
  rintro e w1 ⟨r1, rfl, s1, hb⟩
  have S1 : Hid _ := s1
  clear s1
  go_wp2_with fail
  refine upon_float (by simp) ?_
  intro r2 n2 s2
  go_wp2_with fail
  refine upon_float (by simp) ?_
  intro r3 n3 s3
  go_wp2_with fail
  refine upon_float (by simp) ?_
  intro r4 n4 s4
  go_wp2_with fail
  refine upon_float (by simp) ?_
  intro r5 n5 s5
  go_wp2_with fail
  refine (same_c r1 r5 _ (by show _ = _; rw [S1.out, s5.out, s4.out, s3.out, s2.out, cn_mhalf]; rfl)).mono ?_
  rintro e w2 ⟨rfl, rfl⟩
  go_wp2_with fail
  go_ret
  exact ⟨rfl, below_drewN (((Below.refl _ _).alloc (Nat.le_refl _) _).trans (hb.mono (by simp))) _⟩
end Go.Proofs.Ybulkdsty
