import Derived.Test.YbulkdstyWalkA
namespace Go.Proofs.Ybulkdsty
open Go.RowKit
set_option linter.unusedVariables false

attribute [local go_sem] store_float

theorem bits_run (x : Nat) (w : World) : (callFunc 17 #[.float .f64 x]).run Yba.prog w = .ok (.value (.int .u64 x)) w := by
  rw [run_callFunc_extern (P := Yba.prog) (e := Extern.MathFloatBits.float64bits) Yba.func17 (by kernel_rfl) (by kernel_rfl) (by kernel_rfl) (by kernel_rfl)]
  rfl

set_option maxHeartbeats 400000 in
theorem nan_any (x : Nat) (w : World) : Calls Yba.prog 16 #[.float .f64 x] w fun e w' => e = .returned (.bool (isNaN x)) ∧ w' = w := by
  have q := order_self_ne x
  go_enter Yba.func16, Yba.ntmps16
  go_wp2
  all_goals
    go_ret
    exact ⟨rfl, rfl⟩

set_option maxHeartbeats 400000 in
theorem same_a (a b : Nat) (w : World) (h : Hid (cn a = cn b)) :
    Calls Yba.prog 9 #[.float .f64 a, .float .f64 b] w fun e w' => e = .returned (.bool true) ∧ w' = w := by
  have hb := bits_run
  by_cases ha : isNaN a = true
  · have hn : isNaN b = true := by rw [← cn_nan_iff h.out]; exact ha
    go_enter Yba.func9, Yba.ntmps9
    go_wp2_with (go_at_call 16; refine (nan_any _ _).mono ?_; rintro e w' ⟨rfl, rfl⟩)
    go_ret
    exact ⟨rfl, rfl⟩
  · have ha' : isNaN a = false := by simpa using ha
    have hn : isNaN b = false := by rw [← cn_nan_iff h.out]; exact ha'
    have e := cn_eq h.out ha'
    subst e
    clear h ha
    go_enter Yba.func9, Yba.ntmps9
    go_wp2_with (go_at_call 16; refine (nan_any _ _).mono ?_; rintro e w' ⟨rfl, rfl⟩)
    go_wp2
    go_ret
    exact ⟨rfl, rfl⟩

set_option maxHeartbeats 400000 in
theorem same_c (a b : Nat) (w : World) (h : Hid (cn a = cn b)) :
    Calls Yba.prog 13 #[.float .f64 a, .float .f64 b] w fun e w' => e = .returned (.bool true) ∧ w' = w := by
  have hb := bits_run
  by_cases ha : isNaN a = true
  · have hn : isNaN b = true := by rw [← cn_nan_iff h.out]; exact ha
    go_enter Yba.func13, Yba.ntmps13
    go_wp2_with (go_at_call 16; refine (nan_any _ _).mono ?_; rintro e w' ⟨rfl, rfl⟩)
    go_ret
    exact ⟨rfl, rfl⟩
  · have ha' : isNaN a = false := by simpa using ha
    have hn : isNaN b = false := by rw [← cn_nan_iff h.out]; exact ha'
    have e := cn_eq h.out ha'
    subst e
    clear h ha
    go_enter Yba.func13, Yba.ntmps13
    go_wp2_with (go_at_call 16; refine (nan_any _ _).mono ?_; rintro e w' ⟨rfl, rfl⟩)
    go_wp2
    go_ret
    exact ⟨rfl, rfl⟩

set_option maxHeartbeats 400000 in
theorem law_a (x xm step ym d0 d1 d2 d3 : Nat) (five : Bool) (w : World)  :
    Calls Yba.prog 3 #[.float .f64 x, .float .f64 xm, .float .f64 step, .float .f64 ym, .float .f64 d0, .float .f64 d1, .float .f64 d2, .float .f64 d3, .bool five] w fun e w' => e = .returned (.bool true) ∧ Below w.heap.size w w' := by
  go_enter Yba.func3, Yba.ntmps3
  go_wp2_with fail
  refine (value_any _ _ _ _ _ _ _ _ _ _).mono ?_
  rintro e w1 ⟨r1, rfl, s1, hb⟩
  have S1 : Hid _ := s1
  clear s1
  go_wp2_with fail
  refine (model_f _ _ _ _ _ _ _ _ _ _).mono ?_
  rintro e w2 ⟨r2, k, rfl, s2, rfl⟩
  have S2 : Hid _ := s2
  clear s2
  go_wp2_with fail
  refine (same_a r1 r2 _ (by show _ = _; rw [S1.out, S2.out])).mono ?_
  rintro e w2 ⟨rfl, rfl⟩
  go_wp2_with fail
  go_ret
  exact ⟨rfl, below_drewN (((Below.refl _ _).alloc (Nat.le_refl _) _).trans (hb.mono (by simp))) _⟩
end Go.Proofs.Ybulkdsty
