import Derived.Test.YbulkdsruGreatDoorDur
namespace Go.Proofs.YbulkdsruGreatDoor
open Go.RowKit Go.Op
set_option linter.unusedVariables false
set_option linter.unusedSimpArgs false

theorem bB : B = 4503599627370496 := by decide
theorem r63 : R63 = 4890909195324358656 := rfl

set_option maxRecDepth 8000 in
set_option maxHeartbeats 2000000 in
theorem round_mid (x : Nat) (e : Int) (H M O : Nat) (w : World) (he : 1023 ≤ e) (he2 : e < 1075) (b1 : bits .and .u64 ((x : Int) / 4503599627370496) 2047 = e) (hH : (2251799813685248 : Int) / 2 ^ (e - 1023).toNat = (H : Int)) (hM : (4503599627370495 : Int) / 2 ^ (e - 1023).toNat = (M : Int))
    (hn : bits .andNot .u64 ((x : Int) + (H : Int)) (M : Int) = (O : Int)) (hxH : (x : Int) + (H : Int) < 18446744073709551616) :
    Calls Ybaz.prog 37 #[.float .f64 x] w fun e w' => e = .returned (.float .f64 O) ∧ w' = w := by
  have hb := bits_run
  have hf := from_run
  have d1 : decide (e < 1023) = false := decide_eq_false (by omega)
  have d2 : decide (e < 1075) = true := decide_eq_true (by omega)
  have HH : Hid _ := hH
  have HM : Hid _ := hM
  have HN : Hid _ := hn
  have HX : Hid _ := hxH
  have H1 : Hid _ := he
  have H2 : Hid _ := he2
  clear hH hM hn hxH he he2
  go_enter Ybaz.func37, Ybaz.ntmps37
  go_upto_if 11 with fail
  go_upto_if 19 with fail
  have he := H1.out
  have he2 := H2.out
  go_upto_region 9 with fail
  have hH := HH.out
  have hM := HM.out
  have hn := HN.out
  have hxH := HX.out
  clear HH HM HN HX H1 H2
  go_wp2_with fail
  go_ret
  exact ⟨rfl, rfl⟩

set_option maxRecDepth 8000 in
set_option maxHeartbeats 2000000 in
theorem round_ex (x : Nat) (hx : x < 2 ^ 64) (hr : rg x < R63) : ∃ v, v < 2 ^ 64 ∧ rg v < R63 ∧ ∀ w, Calls Ybaz.prog 37 #[.float .f64 x] w fun e w' => e = .returned (.float .f64 v) ∧ w' = w := by
  have hb := bits_run
  have hf := from_run
  obtain ⟨E, hE⟩ : ∃ E : Nat, bits .and .u64 ((x : Int) / 4503599627370496) 2047 = (E : Int) ∧ E = x / 4503599627370496 % 2048 := by
    have h := bits_and_u64_nat (x / 4503599627370496) 2047 (by omega) (by omega)
    have e : x / 4503599627370496 &&& 2047 = x / 4503599627370496 % 2048 := Nat.and_two_pow_sub_one_eq_mod _ 11
    rw [e] at h
    exact ⟨_, h, rfl⟩
  obtain ⟨b1, hE2⟩ := hE
  have hE3 : E ≤ 2047 := by omega
  have hrg : rg x = x % 2 ^ 63 := rfl
  by_cases c1 : E < 1023
  · have ha : bits .and .u64 (x : Int) 9223372036854775808 = ((x &&& 9223372036854775808 : Nat) : Int) := bits_and_u64_nat x 9223372036854775808 (by omega) (by omega)
    have hm : (x &&& 9223372036854775808) % 2 ^ 63 = 0 := by
      have h1 := Nat.and_mod_two_pow (a := x) (b := 9223372036854775808) (n := 63)
      rw [h1]; simp
    have hl : x &&& 9223372036854775808 ≤ x := Nat.and_le_left
    generalize x &&& 9223372036854775808 = A at ha hm hl
    by_cases c2 : E = 1022
    · have ho : bits .or .u64 (A : Int) 4607182418800017408 = ((A ||| 4607182418800017408 : Nat) : Int) := bits_or_u64_nat A 4607182418800017408 (by omega) (by omega)
      have hm2 : (A ||| 4607182418800017408) % 2 ^ 63 = 4607182418800017408 := by
        have h1 := Nat.or_mod_two_pow (a := A) (b := 4607182418800017408) (n := 63)
        rw [h1, hm]; decide
      have hl2 : A ||| 4607182418800017408 < 2 ^ 64 := Nat.or_lt_two_pow (by omega) (by omega)
      generalize A ||| 4607182418800017408 = O at ho hm2 hl2
      refine ⟨O, hl2, by show O % 2 ^ 63 < R63; rw [hm2]; decide, fun w => ?_⟩
      clear hx hr hE2 hrg hm hl hm2 hl2
      subst c2
      go_enter Ybaz.func37, Ybaz.ntmps37
      go_wp2_with fail
      go_ret
      exact ⟨rfl, rfl⟩
    · refine ⟨A, by omega, by show A % 2 ^ 63 < R63; rw [hm]; decide, fun w => ?_⟩
      have c2' : ((E : Int) == 1022) = false := by simp; omega
      clear hx hr hE2 hrg hm hl
      go_enter Ybaz.func37, Ybaz.ntmps37
      go_wp2_with fail
      go_ret
      exact ⟨rfl, rfl⟩
  · by_cases c3 : E < 1075
    · obtain ⟨k, hk⟩ : ∃ k : Nat, E = 1023 + k := ⟨E - 1023, by omega⟩
      have hk52 : k < 52 := by omega
      have hh : 2251799813685248 / 2 ^ k ≤ 2251799813685248 := Nat.div_le_self _ _
      have hx63 : x % 2 ^ 63 < 1075 * 4503599627370496 := by omega
      obtain ⟨H, hH⟩ : ∃ H, 2251799813685248 / 2 ^ k = H := ⟨_, rfl⟩
      obtain ⟨M, hM⟩ : ∃ M, 4503599627370495 / 2 ^ k = M := ⟨_, rfl⟩
      have hM2 : M ≤ 4503599627370495 := by rw [← hM]; exact Nat.div_le_self _ _
      have hn : bits .andNot .u64 ((x + H : Nat) : Int) (M : Int) = (((x + H) &&& (18446744073709551615 - M) : Nat) : Int) := u64_andNot_nat (x + H) M (by omega) (by omega)
      have hm2 : ((x + H) &&& (18446744073709551615 - M)) % 2 ^ 63 < R63 := by
        have h1 := Nat.and_mod_two_pow (a := x + H) (b := 18446744073709551615 - M) (n := 63)
        have h2 : (x + H) % 2 ^ 63 &&& (18446744073709551615 - M) % 2 ^ 63 ≤ (x + H) % 2 ^ 63 := Nat.and_le_left
        rw [r63, h1]
        omega
      have hl2 : (x + H) &&& (18446744073709551615 - M) ≤ x + H := Nat.and_le_left
      generalize (x + H) &&& (18446744073709551615 - M) = O at hn hm2 hl2
      have hH' : (2251799813685248 : Int) / 2 ^ k = (H : Int) := by rw [← hH]; simp
      have hM' : (4503599627370495 : Int) / 2 ^ k = (M : Int) := by rw [← hM]; simp
      have hkk : ((E : Int) - 1023).toNat = k := by omega
      refine ⟨O, by omega, hm2, fun w => ?_⟩
      have hn' : bits .andNot .u64 ((x : Int) + (H : Int)) (M : Int) = (O : Int) := hn
      have hxH : (x : Int) + (H : Int) < 18446744073709551616 := by omega
      exact round_mid x E H M O w (by omega) (by omega) b1 (by rw [hkk]; exact hH') (by rw [hkk]; exact hM') hn' hxH
    · refine ⟨x, hx, hr, fun w => ?_⟩
      clear hx hr hE2 hrg
      go_enter Ybaz.func37, Ybaz.ntmps37
      go_wp2_with fail
      go_ret
      exact ⟨rfl, rfl⟩
end Go.Proofs.YbulkdsruGreatDoor
