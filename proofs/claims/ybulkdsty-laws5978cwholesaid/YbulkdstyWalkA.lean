import Derived.Test.YbulkdstyRows
import Derived.Test.YbulkdstyFloat
import Derived.WalkSpells
namespace Go.Proofs.Ybulkdsty
open Go.RowKit
set_option linter.unusedVariables false

def two : Nat := 4611686018427387904
theorem cn_two : cn 4611686018427387904 = two := by decide

/-- The parabola's value; every word with NaNs made one. -/
def par (n ym d0 d1 : Nat) : Nat := fop .add ym (fop .mul (fop .quo n two) (fop .add d0 (fop .mul n d1)))

set_option maxHeartbeats 400000 in
theorem parab_any (n ym d0 d1 : Nat) (w : World)  :
    Calls Yba.prog 15 #[.float .f64 n, .float .f64 ym, .float .f64 d0, .float .f64 d1] w fun e w' => ∃ r k, e = .returned (.float .f64 r) ∧ cn r = par (cn n) (cn ym) (cn d0) (cn d1) ∧ w' = w.drewN k := by
  go_enter Yba.func15, Yba.ntmps15
  go_wp2_with fail
  refine upon_float (by simp) ?_
  intro r1 n1 s1
  go_wp2_with fail
  refine upon_float (by simp) ?_
  intro r2 n2 s2
  go_wp2_with fail
  refine upon_float (by simp) ?_
  intro r3 n3 s3
  go_wp2_with fail
  refine upon_float (by simp) ?_
  intro r4 n4 s4
  go_wp2_with fail
  refine upon_float (by simp) ?_
  intro r5 n5 s5
  go_wp2_with fail
  go_ret
  refine ⟨r5, _, rfl, ?_, rfl⟩
  rw [s5.out, s4.out, s3.out, s2.out, s1.out, cn_two]; rfl

set_option maxHeartbeats 400000 in
theorem quart_any (n ym d0 d1 d2 d3 : Nat) (w : World)  :
    Calls Yba.prog 14 #[.float .f64 n, .float .f64 ym, .float .f64 d0, .float .f64 d1, .float .f64 d2, .float .f64 d3] w fun e w' => ∃ r k, e = .returned (.float .f64 r) ∧ cn r = par (cn n) (cn ym) (cn d0) (fop .add (cn d1) (fop .mul (cn n) (fop .add (cn d2) (fop .mul (cn n) (cn d3))))) ∧ w' = w.drewN k := by
  go_enter Yba.func14, Yba.ntmps14
  go_wp2_with fail
  refine upon_float (by simp) ?_
  intro r1 n1 s1
  go_wp2_with fail
  refine upon_float (by simp) ?_
  intro r2 n2 s2
  go_wp2_with fail
  refine upon_float (by simp) ?_
  intro r3 n3 s3
  go_wp2_with fail
  refine upon_float (by simp) ?_
  intro r4 n4 s4
  go_wp2_with fail
  refine (parab_any _ _ _ _ _).mono ?_
  rintro e w' ⟨r5, n5, rfl, s5, rfl⟩
  have S5 : Hid _ := s5
  clear s5
  go_wp2_with fail
  go_ret
  refine ⟨r5, _, rfl, ?_, rfl⟩
  rw [S5.out, s4.out, s3.out, s2.out, s1.out]

/-- The value of a poly at x. -/
def val (x xm step ym d0 d1 d2 d3 : Nat) (five : Bool) : Nat :=
  let n := fop .quo (fop .sub x xm) step
  bif five then par n ym d0 (fop .add d1 (fop .mul n (fop .add d2 (fop .mul n d3)))) else par n ym d0 d1

set_option maxHeartbeats 400000 in
theorem value_any (x xm step ym d0 d1 d2 d3 : Nat) (five : Bool) (w : World)  :
    Calls Yba.prog 7 #[.agg #[.float .f64 xm, .float .f64 step, .float .f64 ym, .float .f64 d0, .float .f64 d1, .float .f64 d2, .float .f64 d3, .bool five], .float .f64 x] w fun e w' => ∃ r, e = .returned (.float .f64 r) ∧ cn r = val (cn x) (cn xm) (cn step) (cn ym) (cn d0) (cn d1) (cn d2) (cn d3) five ∧ Below w.heap.size w w' := by
  cases five
  all_goals
    go_enter Yba.func7, Yba.ntmps7
    go_wp2_with fail
    refine upon_float (by simp) ?_
    intro r1 n1 s1
    go_wp2_with fail
    refine upon_float (by simp) ?_
    intro r2 n2 s2
    go_wp2_with fail
    first
      | refine (parab_any _ _ _ _ _).mono ?_
      | refine (quart_any _ _ _ _ _ _ _).mono ?_
    rintro e w' ⟨r5, n5, rfl, s5, rfl⟩
    have S5 : Hid _ := s5
    clear s5
    go_wp2_with fail
    go_ret
    refine ⟨r5, rfl, ?_, below_drewN ((Below.refl _ _).alloc (Nat.le_refl _) _) _⟩
    rw [S5.out, s2.out, s1.out]
    rfl

set_option maxHeartbeats 400000 in
theorem model_f (x xm step ym d0 d1 d2 d3 : Nat) (five : Bool) (w : World)  :
    Calls Yba.prog 8 #[.float .f64 x, .float .f64 xm, .float .f64 step, .float .f64 ym, .float .f64 d0, .float .f64 d1, .float .f64 d2, .float .f64 d3, .bool five] w fun e w' => ∃ r k, e = .returned (.float .f64 r) ∧ cn r = val (cn x) (cn xm) (cn step) (cn ym) (cn d0) (cn d1) (cn d2) (cn d3) five ∧ w' = w.drewN k := by
  go_enter Yba.func8, Yba.ntmps8
  go_wp2_with fail
  refine upon_float (by simp) ?_
  intro r1 n1 s1
  go_wp2_with fail
  refine upon_float (by simp) ?_
  intro r2 n2 s2
  cases five
  · go_wp2_with fail
    refine upon_float (by simp) ?_
    intro r3 n3 s3
    go_wp2_with fail
    refine upon_float (by simp) ?_
    intro r4 n4 s4
    go_wp2_with fail
    refine upon_float (by simp) ?_
    intro r5 n5 s5
    go_wp2_with fail
    refine upon_float (by simp) ?_
    intro r6 n6 s6
    go_wp2_with fail
    refine upon_float (by simp) ?_
    intro r7 n7 s7
    go_wp2_with fail
    go_ret
    refine ⟨r7, _, rfl, ?_, rfl⟩
    rw [s7.out, s6.out, s5.out, s4.out, s3.out, s2.out, s1.out, cn_two]
    rfl
  · go_wp2_with fail
    refine upon_float (by simp) ?_
    intro r3 n3 s3
    go_wp2_with fail
    refine upon_float (by simp) ?_
    intro r4 n4 s4
    go_wp2_with fail
    refine upon_float (by simp) ?_
    intro r5 n5 s5
    go_wp2_with fail
    refine upon_float (by simp) ?_
    intro r6 n6 s6
    go_wp2_with fail
    refine upon_float (by simp) ?_
    intro r7 n7 s7
    go_wp2_with fail
    refine upon_float (by simp) ?_
    intro r8 n8 s8
    go_wp2_with fail
    refine upon_float (by simp) ?_
    intro r9 n9 s9
    go_wp2_with fail
    refine upon_float (by simp) ?_
    intro r10 n10 s10
    go_wp2_with fail
    refine upon_float (by simp) ?_
    intro r11 n11 s11
    go_wp2_with fail
    go_ret
    refine ⟨r11, _, rfl, ?_, rfl⟩
    rw [s11.out, s10.out, s9.out, s8.out, s7.out, s6.out, s5.out, s4.out, s3.out, s2.out, s1.out, cn_two]
    rfl
end Go.Proofs.Ybulkdsty
