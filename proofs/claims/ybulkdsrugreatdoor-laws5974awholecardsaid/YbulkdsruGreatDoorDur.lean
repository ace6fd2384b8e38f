import Derived.Test.YbulkdsruGreatDoorBound2
import Derived.Test.YbulkdsruGreatDoorClock3
namespace Go.Proofs.YbulkdsruGreatDoor
open Go.RowKit Go.Op
set_option linter.unusedVariables false
set_option linter.unusedSimpArgs false

theorem bits_run (x : Nat) (w : World) : (callFunc 50 #[.float .f64 x]).run Ybaz.prog w = .ok (.value (.int .u64 x)) w := by
  rw [run_callFunc_extern (P := Ybaz.prog) (e := Extern.MathFloatBits.float64bits) Ybaz.func50 (by kernel_rfl) (by kernel_rfl) (by kernel_rfl) (by kernel_rfl)]
  rfl
theorem from_run (n : Int) (w : World) : (callFunc 51 #[.int .u64 n]).run Ybaz.prog w = .ok (.value (.float .f64 n.toNat)) w := by
  rw [run_callFunc_extern (P := Ybaz.prog) (e := Extern.MathFloatBits.float64frombits) Ybaz.func51 (by kernel_rfl) (by kernel_rfl) (by kernel_rfl) (by kernel_rfl)]
  rfl

theorem foi_cn (n : Int) : cn (floatOfInt .f64 n) = floatOfInt .f64 n := by
  refine cn_not ?_
  rw [isNaN_rg, foi_rg]
  generalize rn (n.natAbs * 2 ^ 1074) = q
  exact decide_eq_false (by omega)
theorem cn_gig : cn 4741671816366391296 = GIG := by decide

set_option maxHeartbeats 1000000 in
theorem seconds_any (d : Int) (w : World) (h0 : -9223372036854775808 ≤ d) (h1 : d ≤ 9223372036854775807) :
    Calls Ybaz.prog 16 #[.int .i64 d] w fun e w' => ∃ r k, e = .returned (.float .f64 r) ∧ cn r = secF d ∧ w' = w.drewN k := by
  have hb := tmod_bounds d
  have hq := tdiv_bounds h0 h1
  go_enter Ybaz.func16, Ybaz.ntmps16
  go_wp2_with fail
  refine upon_float (by simp) ?_
  intro r1 n1 s1
  go_wp2_with fail
  refine upon_float (by simp) ?_
  intro r2 n2 s2
  go_wp2_with fail
  go_ret
  exact ⟨_, _, rfl, by rw [s2.out, s1.out, foi_cn, foi_cn, cn_gig]; rfl, rfl⟩

end Go.Proofs.YbulkdsruGreatDoor
