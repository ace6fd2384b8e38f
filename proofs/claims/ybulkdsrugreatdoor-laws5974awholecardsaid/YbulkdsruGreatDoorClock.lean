import Derived.Test.YbulkdsruGreatDoorRows
import Derived.WalkKit
import Derived.WalkLawsBesides
import Derived.Deep.Draws
import Derived.Deep.DeepCutAuto
import Derived.Laws.Bits64b
import Derived.Laws.BitsAllLaws
namespace Go.Proofs.YbulkdsruGreatDoor
open Go.RowKit Go.Op
set_option linter.unusedVariables false
set_option linter.unusedSimpArgs false

/-- A time without a monotonic reading, as a value: nanoseconds, seconds, no location. -/
def tv (n s : Int) : Value := .agg #[.int .u64 n, .int .i64 s, .pointer none]

theorem and_ns {n : Int} (h0 : 0 ≤ n) (h1 : n < 1000000000) : bits .and .u64 n 1073741823 = n := by
  obtain ⟨k, rfl⟩ := Int.eq_ofNat_of_zero_le h0
  have h := bits_and_u64_nat k 1073741823 (by omega) (by omega)
  have e : k &&& 1073741823 = k % 2 ^ 30 := Nat.and_two_pow_sub_one_eq_mod k 30
  rw [e, Nat.mod_eq_of_lt (by omega)] at h
  exact h
theorem and_top {n : Int} (h0 : 0 ≤ n) (h1 : n < 1000000000) : bits .and .u64 n 9223372036854775808 = 0 := by
  obtain ⟨k, rfl⟩ := Int.eq_ofNat_of_zero_le h0
  have h := bits_and_u64_nat k 9223372036854775808 (by omega) (by omega)
  have e : k &&& 9223372036854775808 = 0 := by
    have h1 := Nat.and_mod_two_pow (a := k) (b := 9223372036854775808) (n := 30)
    have hle : k &&& 9223372036854775808 ≤ k := Nat.and_le_left
    rw [Nat.mod_eq_of_lt (show k &&& 9223372036854775808 < 2 ^ 30 by omega)] at h1
    rw [h1]
    simp
  rw [e] at h
  exact h
theorem andNot_ns {n : Int} (h0 : 0 ≤ n) (h1 : n < 1000000000) : bits .andNot .u64 n 1073741823 = 0 := by
  obtain ⟨k, rfl⟩ := Int.eq_ofNat_of_zero_le h0
  have h := u64_andNot_nat k 1073741823 (by omega) (by omega)
  have e : k &&& (18446744073709551615 - 1073741823) = 0 := by
    have h1 := Nat.and_mod_two_pow (a := k) (b := 18446744073709551615 - 1073741823) (n := 30)
    have hle : k &&& (18446744073709551615 - 1073741823) ≤ k := Nat.and_le_left
    rw [Nat.mod_eq_of_lt (show k &&& (18446744073709551615 - 1073741823) < 2 ^ 30 by omega)] at h1
    rw [h1]
    simp
  rw [e] at h
  exact h
theorem or_ns {n : Int} (h0 : 0 ≤ n) (h1 : n < 1000000000) : bits .or .u64 0 n = n := by
  obtain ⟨k, rfl⟩ := Int.eq_ofNat_of_zero_le h0
  have h := bits_or_u64_nat 0 k (by omega) (by omega)
  rw [Nat.zero_or] at h
  exact h

set_option maxHeartbeats 1000000 in
theorem nsec_any (b o : Nat) (n : Int) (w : World) (h0 : 0 ≤ n) (h1 : n < 1000000000) (hc : w.cell? ⟨b, o, none⟩ = some (.int .u64 n)) :
    Calls Ybaz.prog 34 #[.pointer (some ⟨b, o, none⟩)] w fun e w' => e = .returned (.int .i32 n) ∧ w' = w := by
  have b1 := and_ns h0 h1
  go_enter Ybaz.func34, Ybaz.ntmps34
  go_wp2_with fail
  go_ret
  exact ⟨rfl, rfl⟩

set_option maxHeartbeats 1000000 in
theorem sec_any (b o : Nat) (n s : Int) (w : World) (h0 : 0 ≤ n) (h1 : n < 1000000000) (hc : w.cell? ⟨b, o, none⟩ = some (.int .u64 n)) (hs : w.cell? ⟨b, o + 1, none⟩ = some (.int .i64 s)) :
    Calls Ybaz.prog 33 #[.pointer (some ⟨b, o, none⟩)] w fun e w' => e = .returned (.int .i64 s) ∧ w' = w := by
  have b1 := and_top h0 h1
  go_enter Ybaz.func33, Ybaz.ntmps33
  go_wp2_with fail
  go_ret
  exact ⟨rfl, rfl⟩

def addSecF (s d : Int) : Int := if (decide (s < wrap64 (s + d)) == decide (0 < d)) = true then wrap64 (s + d) else if 0 < d then 9223372036854775807 else -9223372036854775807

set_option maxHeartbeats 1000000 in
theorem addSec_any (b o : Nat) (n s d : Int) (w : World) (h0 : 0 ≤ n) (h1 : n < 1000000000) (hc : w.cell? ⟨b, o, none⟩ = some (.int .u64 n)) (hs : w.cell? ⟨b, o + 1, none⟩ = some (.int .i64 s)) (hf : w.frozen? ⟨b, o + 1, none⟩ = false) :
    Calls Ybaz.prog 35 #[.pointer (some ⟨b, o, none⟩), .int .i64 d] w fun e w' => e = .returned (.tuple #[]) ∧ w' = w.setCell ⟨b, o + 1, none⟩ (.int .i64 (addSecF s d)) := by
  have b1 := and_top h0 h1
  go_enter Ybaz.func35, Ybaz.ntmps35
  go_wp2_with fail
  · rename_i h
    go_end0
    refine ⟨rfl, ?_⟩
    unfold addSecF
    rw [if_pos h]
  · rename_i h h2
    go_end0
    refine ⟨rfl, ?_⟩
    unfold addSecF
    rw [if_neg (by rw [h]; simp), if_pos h2]
  · rename_i h h2
    go_end0
    refine ⟨rfl, ?_⟩
    unfold addSecF
    rw [if_neg (by rw [h]; simp), if_neg (by omega)]

/-- What Add makes of the nanoseconds, and the seconds that it adds. -/
def nsF (n d : Int) : Int := if 1000000000 ≤ n + Int.tmod d 1000000000 then n + Int.tmod d 1000000000 - 1000000000 else if n + Int.tmod d 1000000000 < 0 then n + Int.tmod d 1000000000 + 1000000000 else n + Int.tmod d 1000000000
def dsF (n d : Int) : Int := if 1000000000 ≤ n + Int.tmod d 1000000000 then Int.tdiv d 1000000000 + 1 else if n + Int.tmod d 1000000000 < 0 then Int.tdiv d 1000000000 - 1 else Int.tdiv d 1000000000
def addS (n s d : Int) : Int := addSecF s (dsF n d)

theorem tmod_bounds (d : Int) : -1000000000 < Int.tmod d 1000000000 ∧ Int.tmod d 1000000000 < 1000000000 := by
  exact ⟨Int.lt_tmod_of_pos d (by omega), Int.tmod_lt_of_pos d (by omega)⟩
theorem tdiv_bounds {d : Int} (h0 : -9223372036854775808 ≤ d) (h1 : d ≤ 9223372036854775807) : -9223372037 ≤ Int.tdiv d 1000000000 ∧ Int.tdiv d 1000000000 ≤ 9223372037 := by
  have h := Int.tmod_add_mul_tdiv d 1000000000
  have hb := tmod_bounds d
  omega

theorem nsF_bounds {n d : Int} (h0 : 0 ≤ n) (h1 : n < 1000000000) : 0 ≤ nsF n d ∧ nsF n d < 1000000000 := by
  have hb := tmod_bounds d
  unfold nsF
  split
  · omega
  · split <;> omega

set_option maxRecDepth 8000 in
set_option maxHeartbeats 4000000 in
theorem add_any (n s d : Int) (w : World) (h0 : 0 ≤ n) (h1 : n < 1000000000) (hd0 : -9223372036854775808 ≤ d) (hd1 : d ≤ 9223372036854775807) :
    Calls Ybaz.prog 13 #[tv n s, .int .i64 d] w fun e w' => e = .returned (tv (nsF n d) (addS n s d)) ∧ Below w.heap.size w w' := by
  have b1 := andNot_ns h0 h1
  have hb := tmod_bounds d
  have hq := tdiv_bounds hd0 hd1
  have H0 : Hid _ := h0
  have H1 : Hid _ := h1
  unfold tv
  by_cases c1 : 1000000000 ≤ n + Int.tmod d 1000000000
  · have E1 : Hid (nsF n d = n + Int.tmod d 1000000000 - 1000000000) := by show nsF n d = _; unfold nsF; rw [if_pos c1]
    have E2 : Hid (addS n s d = addSecF s (Int.tdiv d 1000000000 + 1)) := by show addS n s d = _; unfold addS dsF; rw [if_pos c1]
    have m0 : 0 ≤ n + Int.tmod d 1000000000 - 1000000000 := by omega
    have m1 : n + Int.tmod d 1000000000 - 1000000000 < 1000000000 := by omega
    have b2 := or_ns m0 m1
    have b3 := and_top m0 m1
    have M0 : Hid _ := m0
    have M1 : Hid _ := m1
    go_enter Ybaz.func13, Ybaz.ntmps13
    go_wp2_with (go_at_call 34; refine (nsec_any _ _ n _ H0.out H1.out (by simp [go_sem])).mono ?_; rintro e w' ⟨rfl, hw⟩; rw [hw]; clear hw)
    go_at_call 35
    refine (addSec_any _ _ (n + Int.tmod d 1000000000 - 1000000000) s _ _ M0.out M1.out (by simp [go_sem]) (by simp [go_sem]) (by simp [go_sem])).mono ?_
    rintro e w' ⟨rfl, rfl⟩
    go_wp2_with fail
    refine bodyPost_ret (v := .agg #[.int .u64 (n + Int.tmod d 1000000000 - 1000000000), .int .i64 (addSecF s (Int.tdiv d 1000000000 + 1)), .pointer none]) (by simp [results, Ybaz.results13, go_sem]) rfl ⟨?_, ?_⟩
    · rw [E1.out, E2.out]
    · exact ((Below.refl _ _).alloc (Nat.le_refl _) _).alloc (by simp) _
  · by_cases c2 : n + Int.tmod d 1000000000 < 0
    · have E1 : Hid (nsF n d = n + Int.tmod d 1000000000 + 1000000000) := by show nsF n d = _; unfold nsF; rw [if_neg c1, if_pos c2]
      have E2 : Hid (addS n s d = addSecF s (Int.tdiv d 1000000000 - 1)) := by show addS n s d = _; unfold addS dsF; rw [if_neg c1, if_pos c2]
      have m0 : 0 ≤ n + Int.tmod d 1000000000 + 1000000000 := by omega
      have m1 : n + Int.tmod d 1000000000 + 1000000000 < 1000000000 := by omega
      have b2 := or_ns m0 m1
      have b3 := and_top m0 m1
      have M0 : Hid _ := m0
      have M1 : Hid _ := m1
      go_enter Ybaz.func13, Ybaz.ntmps13
      go_wp2_with (go_at_call 34; refine (nsec_any _ _ n _ H0.out H1.out (by simp [go_sem])).mono ?_; rintro e w' ⟨rfl, hw⟩; rw [hw]; clear hw)
      go_at_call 35
      refine (addSec_any _ _ (n + Int.tmod d 1000000000 + 1000000000) s _ _ M0.out M1.out (by simp [go_sem]) (by simp [go_sem]) (by simp [go_sem])).mono ?_
      rintro e w' ⟨rfl, rfl⟩
      go_wp2_with fail
      refine bodyPost_ret (v := .agg #[.int .u64 (n + Int.tmod d 1000000000 + 1000000000), .int .i64 (addSecF s (Int.tdiv d 1000000000 - 1)), .pointer none]) (by simp [results, Ybaz.results13, go_sem]) rfl ⟨?_, ?_⟩
      · rw [E1.out, E2.out]
      · exact ((Below.refl _ _).alloc (Nat.le_refl _) _).alloc (by simp) _
    · have E1 : Hid (nsF n d = n + Int.tmod d 1000000000) := by show nsF n d = _; unfold nsF; rw [if_neg c1, if_neg c2]
      have E2 : Hid (addS n s d = addSecF s (Int.tdiv d 1000000000)) := by show addS n s d = _; unfold addS dsF; rw [if_neg c1, if_neg c2]
      have m0 : 0 ≤ n + Int.tmod d 1000000000 := by omega
      have m1 : n + Int.tmod d 1000000000 < 1000000000 := by omega
      have b2 := or_ns m0 m1
      have b3 := and_top m0 m1
      have M0 : Hid _ := m0
      have M1 : Hid _ := m1
      go_enter Ybaz.func13, Ybaz.ntmps13
      go_wp2_with (go_at_call 34; refine (nsec_any _ _ n _ H0.out H1.out (by simp [go_sem])).mono ?_; rintro e w' ⟨rfl, hw⟩; rw [hw]; clear hw)
      go_at_call 35
      refine (addSec_any _ _ (n + Int.tmod d 1000000000) s _ _ M0.out M1.out (by simp [go_sem]) (by simp [go_sem]) (by simp [go_sem])).mono ?_
      rintro e w' ⟨rfl, rfl⟩
      go_wp2_with fail
      refine bodyPost_ret (v := .agg #[.int .u64 (n + Int.tmod d 1000000000), .int .i64 (addSecF s (Int.tdiv d 1000000000)), .pointer none]) (by simp [results, Ybaz.results13, go_sem]) rfl ⟨?_, ?_⟩
      · rw [E1.out, E2.out]
      · exact ((Below.refl _ _).alloc (Nat.le_refl _) _).alloc (by simp) _
end Go.Proofs.YbulkdsruGreatDoor
