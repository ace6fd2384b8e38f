import Derived.Test.YbulkdsruGreatDoorRound
namespace Go.Proofs.YbulkdsruGreatDoor
open Go.RowKit Go.Op Ieee
set_option linter.unusedVariables false
set_option linter.unusedSimpArgs false
set_option exponentiation.threshold 3000

theorem cut_zero_le (s : Bool) (n d : Nat) : Toward.zero.cut s n d ≤ n := by
  have e : Toward.zero.cut s n d = n / 1 <<< min d (n.log2 + 2) + 0 := rfl
  rw [e]
  exact Nat.div_le_self _ _
theorem vl_R63 : vl R63 = 2 ^ 63 * 2 ^ 1074 := by decide +kernel

theorem pow_split (m e c : Nat) (h : c ≤ e) : m * 2 ^ e = m * 2 ^ (e - c) * 2 ^ c := by
  rw [Nat.mul_assoc, ← Nat.pow_add, Nat.sub_add_cancel h]

theorem whole_lt {r : Nat} (h : r < R63) : mg r <<< (-1074 + (ex r : Int)).toNat < 2 ^ 63 := by
  rw [Nat.shiftLeft_eq]
  by_cases hx : ex r ≤ 1074
  · have e : (-1074 + (ex r : Int)).toNat = 0 := by omega
    rw [e]
    have h1 := mg_lt r
    have hB : 2 * B < 2 ^ 63 := by decide
    omega
  · have e : (-1074 + (ex r : Int)).toNat = ex r - 1074 := by omega
    rw [e]
    have h1 := vl_lt h
    rw [vl_R63] at h1
    have e2 : vl r = mg r * 2 ^ (ex r - 1074) * 2 ^ 1074 := pow_split _ _ _ (Nat.le_of_lt (Nat.lt_of_not_le hx))
    rw [e2] at h1
    exact Nat.lt_of_mul_lt_mul_right h1

theorem toInt_ex {v : Nat} (h : rg v < R63) : ∃ D : Int, floatToIntVal .f64 v .i64 = some D ∧ -9223372036854775808 ≤ D ∧ D ≤ 9223372036854775807 := by
  have hI : R63 < INF := by decide
  have e0 : FloatKind.f64.decode v = .number (sg v) (mg (rg v)) (-1074 + (ex (rg v) : Int)) := read_fin (by omega)
  have hw := whole_lt h
  have hc := cut_zero_le (sg v) (mg (rg v) <<< (-1074 + (ex (rg v) : Int)).toNat) (-(-1074 + (ex (rg v) : Int))).toNat
  have e1 : (FloatKind.f64.decode v).toInt .zero = some (signed (sg v) (Toward.zero.cut (sg v) (mg (rg v) <<< (-1074 + (ex (rg v) : Int)).toNat) (-(-1074 + (ex (rg v) : Int))).toNat) 0) := by
    rw [e0]; rfl
  generalize Toward.zero.cut (sg v) (mg (rg v) <<< (-1074 + (ex (rg v) : Int)).toNat) (-(-1074 + (ex (rg v) : Int))).toNat = N at hc e1
  generalize mg (rg v) <<< (-1074 + (ex (rg v) : Int)).toNat = Q at hw hc
  have hN : N < 2 ^ 63 := by omega
  have hs : -9223372036854775808 ≤ signed (sg v) N 0 ∧ signed (sg v) N 0 ≤ 9223372036854775807 := by
    rw [signed_sgd]
    unfold sgd
    cases sg v <;> simp <;> omega
  refine ⟨signed (sg v) N 0, ?_, hs⟩
  unfold floatToIntVal
  rw [e1]
  exact if_pos ⟨hs.1, hs.2⟩

theorem ge63 {v : Nat} (h : rg v < R63) : (FloatKind.f64.format.order v 4890909195324358656 == some .gt || FloatKind.f64.format.order v 4890909195324358656 == some .eq) = false := by
  show (double.order v R63 == some .gt || double.order v R63 == some .eq) = false
  have hI : R63 < INF := by decide
  have h63 : rg R63 < INF := by decide
  have hk : K R63 = (R63 : Int) := by decide
  have hv : K v < (R63 : Int) := by unfold K sgd; cases sg v <;> simp <;> omega
  rw [order_gt (by omega) h63, order_eq (by omega) h63, hk]
  simp; omega

set_option maxHeartbeats 1000000 in
theorem dur_ex (y : Nat) (hy : rg (fop .mul y GIG) < R63) : ∃ D : Int, -9223372036854775808 ≤ D ∧ D ≤ 9223372036854775807 ∧
    (∀ r w, cn r = y → Calls Ybaz.prog 14 #[.float .f64 r] w fun e w' => ∃ k, e = .returned (.int .i64 D) ∧ w' = w.drewN k) ∧
    (∀ r w, cn r = y → Calls Ybaz.prog 49 #[.float .f64 r] w fun e w' => ∃ k, e = .returned (.int .i64 D) ∧ w' = w.drewN k) := by
  have hI : R63 < INF := by decide
  have hnn : isNaN (fop .mul y GIG) = false := by rw [isNaN_rg]; exact decide_eq_false (by omega)
  have key : ∀ r q, cn r = y → cn q = fop .mul (cn r) (cn 4741671816366391296) → q = fop .mul y GIG := by
    intro r q h1 h2
    rw [h1, cn_gig] at h2
    have : isNaN q = false := by rw [← cn_isNaN, h2]; exact hnn
    rwa [cn_not this] at h2
  have h64 : fop .mul y GIG < 2 ^ 64 := by
    obtain ⟨r, n, _, hc, hl⟩ := fl_run Ybaz.prog .mul (by simp) 54 y GIG (World.settled Ybaz.prog default)
    have : isNaN r = false := by rw [← cn_isNaN, hc]; exact hnn
    rw [cn_not this] at hc
    omega
  obtain ⟨v, hv1, hv2, hv3⟩ := round_ex _ h64 hy
  obtain ⟨D, hD, hD1, hD2⟩ := toInt_ex hv2
  have tg := ge63 hv2
  have hcv : ∀ w, (convert 54 64 (.float .f64 v)).run Ybaz.prog w = .ok (.int .i64 D) w := fun w => run_convert_float_int w 54 64 .f64 .i64 v D (by rw [Ybaz.underlying54]; rfl) Ybaz.underlying64 hD
  have KEY : Hid _ := key
  have HV : Hid _ := hv3
  refine ⟨D, hD1, hD2, ?_, ?_⟩
  · intro r w hr
    have HR : Hid _ := hr
    clear hy hI hnn key h64 hv1 hv2 hv3 hD hD1 hD2 hr
    go_enter Ybaz.func14, Ybaz.ntmps14
    go_wp2_with fail
    refine upon_float (by simp) ?_
    intro q n1 s1
    obtain rfl := KEY.out r q HR.out s1.out
    go_wp2_with fail
    go_at_call 37
    refine (HV.out _).mono ?_
    rintro e w' ⟨rfl, hw⟩
    rw [hw]
    clear hw
    go_wp2_with (simp only [hcv])
    go_ret
    exact ⟨_, rfl, rfl⟩
  · intro r w hr
    have HR : Hid _ := hr
    clear hy hI hnn key h64 hv1 hv2 hv3 hD hD1 hD2 hr
    go_enter Ybaz.func49, Ybaz.ntmps49
    go_wp2_with fail
    refine upon_float (by simp) ?_
    intro q n1 s1
    obtain rfl := KEY.out r q HR.out s1.out
    go_wp2_with fail
    go_at_call 37
    refine (HV.out _).mono ?_
    rintro e w' ⟨rfl, hw⟩
    rw [hw]
    clear hw
    go_wp2_with (simp only [hcv])
    go_ret
    exact ⟨_, rfl, rfl⟩
end Go.Proofs.YbulkdsruGreatDoor
