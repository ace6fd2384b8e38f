import Derived.Test.YbulkdswqDoorWalkSa
import Derived.Laws.BitsAllLaws
namespace Go.Proofs.YbulkdswqDoor
open Go.RowKit
set_option linter.unusedVariables false
set_option linter.unusedSimpArgs false

def frF (a : Nat) : Nat := 1022 * B + a % B
def exF (a : Nat) : Int := (a / B : Nat) - 1022

theorem lt_norm {a : Nat} (h1 : B ≤ a) (h2 : a < INF) : (FloatKind.f64.format.order (absW a) 4503599627370496 == some .lt) = false := by
  have hI := INF_lt
  have r1 : rg a = a := Nat.mod_eq_of_lt (by omega)
  show (Ieee.double.order (rg a) 4503599627370496 == some .lt) = false
  rw [r1, order_lt (by rw [r1]; exact h2) (by decide), K_nn (r := a) (by omega), K_nn (r := 4503599627370496) (by decide)]
  have hB : B = 4503599627370496 := by decide
  simp; omega

set_option maxHeartbeats 1000000 in
theorem normalize_any (a : Nat) (w : World) (h1 : B ≤ a) (h2 : a < INF) : Calls Ybad.prog 55 #[.float .f64 a] w fun e w' => e = .returned (.tuple #[.float .f64 a, .int .i64 0]) ∧ w' = w := by
  have t := lt_norm h1 h2
  have H : Hid (a < 2 ^ 64) := by have := INF_lt; show a < 2 ^ 64; omega
  clear h1 h2
  go_enter Ybad.func55, Ybad.ntmps55
  go_wp2_with (go_at_call 12; refine (abs_any _ _ H.out).mono ?_; rintro e w' ⟨rfl, hw⟩; rw [hw]; clear hw)
  go_ret2
  exact ⟨rfl, rfl⟩

theorem bB : B = 4503599627370496 := by decide
theorem iI : INF = 9218868437227405312 := by decide

theorem frexp_bits {a : Nat} (h2 : a < INF) :
    bits .and .u64 ((a : Int) / 4503599627370496) 2047 = ((a / B : Nat) : Int) ∧ bits .andNot .u64 (a : Int) 9218868437227405312 = ((a % B : Nat) : Int) ∧ bits .or .u64 ((a % B : Nat) : Int) 4602678819172646912 = ((frF a : Nat) : Int) := by
  have hI := iI
  have hB := bB
  refine ⟨?_, ?_, ?_⟩
  · have hq : a / B ≤ 2046 := by rw [hB]; omega
    have h := bits_and_u64_nat (a / B) 2047 (by omega) (by omega)
    have e : a / B &&& 2047 = a / B % 2048 := Nat.and_two_pow_sub_one_eq_mod (a / B) 11
    rw [e, Nat.mod_eq_of_lt (by omega)] at h
    have e2 : ((a : Int) / 4503599627370496) = ((a / B : Nat) : Int) := by rw [hB]; omega
    rw [e2]; exact h
  · have h := u64_andNot_nat a 9218868437227405312 (by omega) (by omega)
    have e : a &&& (18446744073709551615 - 9218868437227405312) = a % B := by
      have hle : a &&& (18446744073709551615 - 9218868437227405312) ≤ a := Nat.and_le_left
      have h1 := Nat.and_mod_two_pow (a := a) (b := 18446744073709551615 - 9218868437227405312) (n := 63)
      rw [Nat.mod_eq_of_lt (show a &&& (18446744073709551615 - 9218868437227405312) < 2 ^ 63 by omega), Nat.mod_eq_of_lt (show a < 2 ^ 63 by omega)] at h1
      rw [h1]
      exact Nat.and_two_pow_sub_one_eq_mod a 52
    rw [e] at h
    exact h
  · have hq : a % B < 4503599627370496 := by rw [hB]; omega
    have h := bits_or_u64_nat (a % B) 4602678819172646912 (by omega) (by omega)
    have e : (4602678819172646912 : Nat) ||| a % B = 4602678819172646912 + a % B := nat_join 52 _ _ (by decide) (by rw [hB]; exact Nat.mod_lt _ (by decide))
    rw [Nat.or_comm, e] at h
    have e2 : frF a = 4602678819172646912 + a % B := by unfold frF; rw [hB]
    rw [e2]; exact h

set_option maxHeartbeats 2000000 in
theorem frexp_low (a : Nat) (w : World) (h1 : B ≤ a) (h2 : a < INF) : Calls Ybad.prog 51 #[.float .f64 a] w fun e w' => e = .returned (.tuple #[.float .f64 (frF a), .int .i64 (exF a)]) ∧ w' = w := by
  have hI := INF_lt
  have r1 : rg a = a := Nat.mod_eq_of_lt (by omega)
  have hB := bB
  have hI2 := iI
  have t1 : (FloatKind.f64.format.order a 0 == some .eq) = false := by rw [eq0_test (by rw [r1]; exact h2)]; simp; omega
  have t2 : isNaN a = false := by rw [isNaN_rg]; simp; omega
  have t3 : decide (rg a = INF) = false := by simp; omega
  obtain ⟨b1, b2, b3⟩ := frexp_bits h2
  have e1 : a / B ≤ 2047 := by rw [hB]; omega
  have HX : Hid (a < 2 ^ 64) := by show a < 2 ^ 64; omega
  have HR : Hid (rg a ≤ INF) := by show rg a ≤ INF; omega
  have H1 : Hid (B ≤ a) := h1
  have H2 : Hid (a < INF) := h2
  have hb := bits_run
  have hf := from_run
  generalize hE : a / B = E at b1 e1
  generalize a % B = F at b2 b3
  generalize hR : frF a = R at b3
  have HE : Hid (exF a = (E : Int) - 1022) := by show exF a = _; unfold exF; rw [hE]
  clear hI r1 hB hI2 h1 h2 hE
  go_enter Ybad.func51, Ybad.ntmps51
  go_wp2_with (first | (go_at_call 28; refine (nan_any _ _).mono ?_; rintro e w' ⟨rfl, hw⟩; rw [hw]; clear hw) | (go_at_call 29; refine (inf_any _ _ HX.out HR.out).mono ?_; rintro e w' ⟨rfl, hw⟩; rw [hw]; clear hw) | (go_at_call 55; refine (normalize_any _ _ H1.out H2.out).mono ?_; rintro e w' ⟨rfl, hw⟩; rw [hw]; clear hw))
  go_ret2
  exact ⟨by rw [HE.out]; simp; omega, rfl⟩

set_option maxHeartbeats 1000000 in
theorem frexp_any (a : Nat) (w : World) (h1 : B ≤ a) (h2 : a < INF) : Calls Ybad.prog 40 #[.float .f64 a] w fun e w' => e = .returned (.tuple #[.float .f64 (frF a), .int .i64 (exF a)]) ∧ w' = w := by
  have H1 : Hid (B ≤ a) := h1
  have H2 : Hid (a < INF) := h2
  clear h1 h2
  go_enter Ybad.func40, Ybad.ntmps40
  go_wp2_with (go_at_call 51; refine (frexp_low _ _ H1.out H2.out).mono ?_; rintro e w' ⟨rfl, hw⟩; rw [hw]; clear hw)
  go_ret2
  exact ⟨rfl, rfl⟩

def TP : Nat := 4618760256179416344
/-- 2 pi times 2^k. -/
def ldW (k : Nat) : Nat := TP + k * B
def ldF (k : Nat) : Nat := fop .mul one (cn (ldW k))

theorem ld_bits {k : Nat} (h : k ≤ 900) : bits .or .u64 2570638124657944 (((k : Int) + 2 + 1023) * 4503599627370496) = ((ldW k : Nat) : Int) := by
  have hB := bB
  have h1 := bits_or_u64_nat 2570638124657944 ((k + 1025) * 4503599627370496) (by omega) (by omega)
  have e : (k + 1025) * 4503599627370496 ||| 2570638124657944 = (k + 1025) * 4503599627370496 + 2570638124657944 := nat_join 52 _ _ (by simp) (by decide)
  rw [Nat.or_comm, e] at h1
  have e2 : ldW k = (k + 1025) * 4503599627370496 + 2570638124657944 := by unfold ldW TP; rw [hB]; omega
  rw [e2]
  have e3 : (((k : Int) + 2 + 1023) * 4503599627370496) = (((k + 1025) * 4503599627370496 : Nat) : Int) := by omega
  rw [e3]; exact h1

set_option maxRecDepth 8000 in
set_option maxHeartbeats 2000000 in
theorem ldexp_low (y k : Nat) (w : World) (hy : y = TP) (hk : k ≤ 900) : Calls Ybad.prog 53 #[.float .f64 y, .int .i64 k] w fun e w' => ∃ r n, e = .returned (.float .f64 r) ∧ cn r = ldF k ∧ w' = w.drewN n := by
  have t1 : (FloatKind.f64.format.order y 0 == some .eq) = false := by subst hy; decide
  have t2 : isNaN y = false := by subst hy; decide
  have t3 : decide (rg y = INF) = false := by subst hy; decide
  have HX : Hid (y < 2 ^ 64) := by show y < 2 ^ 64; subst hy; decide
  have HR : Hid (rg y ≤ INF) := by show rg y ≤ INF; subst hy; decide
  have H1 : Hid (B ≤ y) := by show B ≤ y; subst hy; decide
  have H2 : Hid (y < INF) := by show y < INF; subst hy; decide
  have b0 : (y : Int) / 4503599627370496 = 1025 := by subst hy; decide
  have b1 : bits .and .i64 1025 2047 = 1025 := by decide
  have b2 : bits .andNot .u64 (y : Int) 9218868437227405312 = 2570638124657944 := by subst hy; decide
  have b3 := ld_bits hk
  have hb := bits_run
  have hf := from_run
  generalize hW : ldW k = W at b3
  have HW : Hid (ldW k = W) := hW
  clear hy hW
  go_enter Ybad.func53, Ybad.ntmps53
  go_wp2_with (first | (go_at_call 28; refine (nan_any _ _).mono ?_; rintro e w' ⟨rfl, hw⟩; rw [hw]; clear hw) | (go_at_call 29; refine (inf_any _ _ HX.out HR.out).mono ?_; rintro e w' ⟨rfl, hw⟩; rw [hw]; clear hw) | (go_at_call 55; refine (normalize_any _ _ H1.out H2.out).mono ?_; rintro e w' ⟨rfl, hw⟩; rw [hw]; clear hw))
  refine upon_float (by simp) ?_
  intro r n s
  go_wp2_with fail
  go_ret
  refine ⟨r, n, rfl, ?_, rfl⟩
  rw [s.out, cn_one]
  unfold ldF
  rw [HW.out]

set_option maxHeartbeats 1000000 in
theorem ldexp_any (y k : Nat) (w : World) (hy : y = TP) (hk : k ≤ 900) : Calls Ybad.prog 41 #[.float .f64 y, .int .i64 k] w fun e w' => ∃ r n, e = .returned (.float .f64 r) ∧ cn r = ldF k ∧ w' = w.drewN n := by
  have HY : Hid (y = TP) := hy
  have HK : Hid (k ≤ 900) := hk
  clear hy hk
  go_enter Ybad.func41, Ybad.ntmps41
  go_wp2_with fail
  go_at_call 53
  refine (ldexp_low y k w HY.out HK.out).mono ?_
  rintro e w' ⟨r, n, rfl, hc, rfl⟩
  have HC : Hid _ := hc
  clear hc
  go_wp2_with fail
  go_ret
  exact ⟨r, n, rfl, HC.out, rfl⟩
end Go.Proofs.YbulkdswqDoor
