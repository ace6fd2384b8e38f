import Derived.Test.YbulkdswqDoorWalkS
import Derived.Test.YbulkdswqDoorRed
namespace Go.Proofs.YbulkdswqDoor
open Go.RowKit
set_option linter.unusedVariables false

set_option maxRecDepth 8000 in
set_option maxHeartbeats 1000000 in
theorem sincos_zero (x : Nat) (w : World) (h0 : rg x = 0) :
    Calls Ybad.prog 27 #[.float .f64 x] w fun e w' => e = .returned (.tuple #[.float .f64 x, .float .f64 4607182418800017408]) ∧ w' = w := by
  have t1 : (FloatKind.f64.format.order x 0 == some .eq) = true := by rw [eq0_test (by rw [h0]; decide)]; simp [h0]
  clear h0
  go_enter Ybad.func27, Ybad.ntmps27
  go_wp2_with fail
  go_ret2
  exact ⟨rfl, rfl⟩

set_option maxRecDepth 8000 in
set_option maxHeartbeats 1000000 in
theorem sincos_nan (x : Nat) (w : World) (h0 : isNaN x = true) :
    Calls Ybad.prog 27 #[.float .f64 x] w fun e w' => e = .returned (.tuple #[.float .f64 9221120237041090561, .float .f64 9221120237041090561]) ∧ w' = w := by
  have t1 : (FloatKind.f64.format.order x 0 == some .eq) = false := by
    obtain ⟨s, t, e⟩ := isNaN_iff h0
    show (Ieee.double.order x 0 == some .eq) = _
    unfold Ieee.Format.order
    rw [e]
    simp [Ieee.Datum.order]
  go_enter Ybad.func27, Ybad.ntmps27
  go_wp2_with (first | (go_at_call 28; refine (nan_any _ _).mono ?_; rintro e w' ⟨rfl, hw⟩; rw [hw]; clear hw) | (go_at_call 36; refine (nanv_any _).mono ?_; rintro e w' ⟨rfl, hw⟩; rw [hw]; clear hw))
  go_ret2
  exact ⟨rfl, rfl⟩

set_option maxRecDepth 8000 in
set_option maxHeartbeats 1000000 in
theorem sincos_inf (x : Nat) (w : World) (hx : x < 2 ^ 64) (h0 : rg x = INF) :
    Calls Ybad.prog 27 #[.float .f64 x] w fun e w' => e = .returned (.tuple #[.float .f64 9221120237041090561, .float .f64 9221120237041090561]) ∧ w' = w := by
  have t1 : (FloatKind.f64.format.order x 0 == some .eq) = false := by
    show (Ieee.double.order x 0 == some .eq) = _
    unfold Ieee.Format.order
    rw [read_inf h0]
    have : Ieee.double.read 0 = .number false 0 (-1074) := by decide
    rw [this]
    cases sg x <;> rfl
  have t2 : isNaN x = false := by rw [isNaN_rg, h0]; decide
  have t3 : decide (rg x = INF) = true := by rw [h0]; decide
  have HX : Hid (x < 2 ^ 64) := hx
  have HF : Hid (rg x ≤ INF) := Nat.le_of_eq h0
  clear hx h0
  go_enter Ybad.func27, Ybad.ntmps27
  go_wp2_with (first | (go_at_call 28; refine (nan_any _ _).mono ?_; rintro e w' ⟨rfl, hw⟩; rw [hw]; clear hw) | (go_at_call 29; refine (inf_any _ _ HX.out HF.out).mono ?_; rintro e w' ⟨rfl, hw⟩; rw [hw]; clear hw) | (go_at_call 36; refine (nanv_any _).mono ?_; rintro e w' ⟨rfl, hw⟩; rw [hw]; clear hw))
  go_ret2
  exact ⟨rfl, rfl⟩

/-- Sincos answers by its argument alone, up to a NaN's bits. -/
theorem sincos_ex (y : Nat) : ∃ p : Nat × Nat, ∀ x w, x < 2 ^ 64 → cn x = y → Tabs w →
    Calls Ybad.prog 27 #[.float .f64 x] w fun e w' => ∃ s c k, e = .returned (.tuple #[.float .f64 s, .float .f64 c]) ∧ cn s = p.1 ∧ cn c = p.2 ∧ w' = w.drewN k := by
  by_cases hn : isNaN y = true
  · refine ⟨(qnan, qnan), fun x w hx e hT => ?_⟩
    have h : isNaN x = true := by rw [← cn_isNaN, e]; exact hn
    refine (sincos_nan x w h).mono ?_
    rintro e' w' ⟨rfl, rfl⟩
    exact ⟨_, _, 0, rfl, by decide, by decide, rfl⟩
  · have hn' : isNaN y = false := by simpa using hn
    have key : ∀ x, cn x = y → x = y := by
      intro x e
      have : isNaN x = false := by rw [← cn_isNaN, e]; exact hn'
      rwa [cn_not this] at e
    have hle : rg y ≤ INF := by
      rw [isNaN_rg] at hn'
      simp at hn'; exact hn'
    by_cases hi : rg y = INF
    · refine ⟨(qnan, qnan), fun x w hx e hT => ?_⟩
      obtain rfl := key x e
      refine (sincos_inf x w hx hi).mono ?_
      rintro e' w' ⟨rfl, rfl⟩
      exact ⟨_, _, 0, rfl, by decide, by decide, rfl⟩
    · by_cases h0 : rg y = 0
      · refine ⟨(y, one), fun x w hx e hT => ?_⟩
        obtain rfl := key x e
        refine (sincos_zero x w h0).mono ?_
        rintro e' w' ⟨rfl, rfl⟩
        exact ⟨_, _, 0, rfl, e, cn_one, rfl⟩
      · obtain ⟨J, Z, hJ, hr⟩ := red_ex (rg y) (by omega) (by omega)
        refine ⟨(sinR (sg y) J Z, cosR J Z), fun x w hx e hT => ?_⟩
        obtain rfl := key x e
        exact sincos_core x J Z w hx (by omega) (by omega) hJ hr hT

/-- The same for all arguments at once. -/
theorem sincos_all : ∃ sc : Nat → Nat × Nat, ∀ x w, x < 2 ^ 64 → Tabs w →
    Calls Ybad.prog 27 #[.float .f64 x] w fun e w' => ∃ s c k, e = .returned (.tuple #[.float .f64 s, .float .f64 c]) ∧ cn s = (sc (cn x)).1 ∧ cn c = (sc (cn x)).2 ∧ w' = w.drewN k := by
  have h := fun y => sincos_ex y
  obtain ⟨sc, hsc⟩ := Classical.axiomOfChoice h
  exact ⟨sc, fun x w hx hT => hsc (cn x) x w hx rfl hT⟩
end Go.Proofs.YbulkdswqDoor
