import Derived.Test.YbulkdswqDoorWalkD
import Derived.Deep.QuietTactic
import Derived.BigQuiet
import Derived.Test.YbulkdswqDoorShelf
import Derived.Laws.Bits64b
namespace Go.Proofs.YbulkdswqDoor
open Go.RowKit
set_option linter.unusedVariables false

theorem bits_run (x : Nat) (w : World) : (callFunc 16 #[.float .f64 x]).run Ybad.prog w = .ok (.value (.int .u64 x)) w := by
  rw [run_callFunc_extern (P := Ybad.prog) (e := Extern.MathFloatBits.float64bits) Ybad.func16 (by kernel_rfl) (by kernel_rfl) (by kernel_rfl) (by kernel_rfl)]
  rfl
theorem from_run (n : Int) (w : World) : (callFunc 25 #[.int .u64 n]).run Ybad.prog w = .ok (.value (.float .f64 n.toNat)) w := by
  rw [run_callFunc_extern (P := Ybad.prog) (e := Extern.MathFloatBits.float64frombits) Ybad.func25 (by kernel_rfl) (by kernel_rfl) (by kernel_rfl) (by kernel_rfl)]
  rfl
theorem add64_run (x y c : Int) (hx : 0 ≤ x) (hy : 0 ≤ y) (hc0 : 0 ≤ c) (hc : c ≤ 1) (w : World) :
    (callFunc 46 #[.int .u64 x, .int .u64 y, .int .u64 c]).run Ybad.prog w = .ok (.value (.tuple #[.int .u64 ((x + y + c) % 18446744073709551616), .int .u64 ((x + y + c) / 18446744073709551616)])) w := by
  rw [run_callFunc_extern (P := Ybad.prog) (e := add64Entry) Ybad.func46 (by kernel_rfl) (by kernel_rfl) (by kernel_rfl) (by kernel_rfl), run_add64 x y c hx hy hc0 hc w]
  rfl
theorem neg_float (x : Nat) : Op.unary .neg (.float .f64 x) = pure (.float .f64 (Op.negFloat .f64 x)) := rfl

set_option maxHeartbeats 400000 in
theorem nan_any (x : Nat) (w : World) : Calls Ybad.prog 28 #[.float .f64 x] w fun e w' => e = .returned (.bool (isNaN x)) ∧ w' = w := by
  have q := order_self_ne x
  go_enter Ybad.func28, Ybad.ntmps28
  go_wp2
  all_goals
    go_ret
    exact ⟨rfl, rfl⟩

theorem abs_bits (x : Nat) (hx : x < 2 ^ 64) : (bits BinOp.andNot IntKind.u64 (x : Int) 9223372036854775808).toNat = absW x := by
  have h := u64_andNot_nat x 9223372036854775808 hx (by decide)
  have e : x &&& (18446744073709551615 - 9223372036854775808) = x % 2 ^ 63 := Nat.and_two_pow_sub_one_eq_mod x 63
  rw [e] at h
  have h' : bits BinOp.andNot IntKind.u64 (x : Int) 9223372036854775808 = ((x % 2 ^ 63 : Nat) : Int) := h
  rw [h', Int.toNat_natCast]
  rfl

set_option maxHeartbeats 400000 in
theorem abs_any (x : Nat) (w : World) (hx : x < 2 ^ 64) : Calls Ybad.prog 12 #[.float .f64 x] w fun e w' => e = .returned (.float .f64 (absW x)) ∧ w' = w := by
  have hb := bits_run
  have hf := from_run
  have ha := abs_bits x hx
  clear hx
  go_enter Ybad.func12, Ybad.ntmps12
  go_wp2
  go_ret
  exact ⟨rfl, rfl⟩


set_option maxHeartbeats 2000000 in
theorem trig_core (x E D S X Z0 Z1 Z2 : Nat) (m0 m1 m2 m3 : Int) (w : World) (hx : x < 2 ^ 63) (hE1 : 1052 ≤ E) (hE2 : E ≤ 2046) (hDS : E - 1014 = 64 * D + S) (hS : S < 64) (hX : X < 18446744073709551616)
    (hlt : (FloatKind.f64.format.order x 4605249457297304856 == some .lt) = false)
    (hor : bits BinOp.or IntKind.u64 (bits BinOp.andNot IntKind.u64 (x : Int) 9218868437227405312) 4503599627370496 = (X : Int)) (hand : bits BinOp.and IntKind.u64 ((x : Int) / 4503599627370496) 2047 = (E : Int))
    (hm0 : w.cell? ⟨4, D, none⟩ = some (.int .u64 m0)) (hm1 : w.cell? ⟨4, D + 1, none⟩ = some (.int .u64 m1)) (hm2 : w.cell? ⟨4, D + 2, none⟩ = some (.int .u64 m2)) (hm3 : w.cell? ⟨4, D + 3, none⟩ = some (.int .u64 m3))
    (hz0 : bits BinOp.or IntKind.u64 (IntKind.u64.wrap (m0 * 2 ^ S)) (m1 / 2 ^ (64 - S)) = (Z0 : Int)) (hz1 : bits BinOp.or IntKind.u64 (IntKind.u64.wrap (m1 * 2 ^ S)) (m2 / 2 ^ (64 - S)) = (Z1 : Int)) (hz2 : bits BinOp.or IntKind.u64 (IntKind.u64.wrap (m2 * 2 ^ S)) (m3 / 2 ^ (64 - S)) = (Z2 : Int))
    (hZ0 : Z0 < 18446744073709551616) (hZ1 : Z1 < 18446744073709551616) (hZ2 : Z2 < 18446744073709551616)
    (A2 B2 A1 B1 P0 LO C1 HI C2 H1 : Nat) (L : Int) (hL0 : 0 ≤ L) (hL1 : L ≤ 64)
    (hHI : HI < 18446744073709551616) (hLO : LO < 18446744073709551616) (hH1 : H1 < 18446744073709551616)
    (hM2 : Hid (∀ w, Calls Ybad.prog 45 #[.int .u64 Z2, .int .u64 X] w fun e w' => e = .returned (.tuple #[.int .u64 A2, .int .u64 B2]) ∧ w' = w))
    (hM1 : Hid (∀ w, Calls Ybad.prog 45 #[.int .u64 Z1, .int .u64 X] w fun e w' => e = .returned (.tuple #[.int .u64 A1, .int .u64 B1]) ∧ w' = w))
    (hP0 : IntKind.u64.wrap ((Z0 : Int) * (X : Int)) = (P0 : Int))
    (hA1 : ∀ w, (callFunc 46 #[.int .u64 B1, .int .u64 A2, .int .u64 0]).run Ybad.prog w = .ok (.value (.tuple #[.int .u64 LO, .int .u64 C1])) w)
    (hA2 : ∀ w, (callFunc 46 #[.int .u64 P0, .int .u64 A1, .int .u64 C1]).run Ybad.prog w = .ok (.value (.tuple #[.int .u64 HI, .int .u64 C2])) w)
    (hh1 : bits BinOp.or IntKind.u64 (IntKind.u64.wrap ((HI : Int) * 8)) ((LO : Int) / 2305843009213693952) = (H1 : Int))
    (hLZ : Hid (∀ w, Calls Ybad.prog 47 #[.int .u64 H1] w fun e w' => e = .returned (.int .i64 L) ∧ w' = w))
    (W J J2 : Nat) (hW : bits BinOp.or IntKind.u64 (bits BinOp.or IntKind.u64 (IntKind.u64.wrap ((H1 : Int) * 2 ^ min (L + 1).toNat 64)) ((LO : Int) / 2 ^ min (IntKind.u64.wrap (64 - (L + 1))).toNat 64) / 4096) ((1023 - (L + 1)) * 4503599627370496) = (W : Int))
    (hJ : (HI : Int) / 2305843009213693952 = (J : Int)) (hJ7 : J ≤ 7) (hJ2 : bits BinOp.and IntKind.u64 ((J : Int) + 1) 7 = (J2 : Int)) (odd : Bool) (hodd : (bits BinOp.and IntKind.u64 (J : Int) 1 == 1) = odd) :
    Calls Ybad.prog 37 #[.float .f64 x] w fun e w' => ∃ r k, e = .returned (.tuple #[.int .u64 (bif odd then J2 else J : Nat), .float .f64 r]) ∧ cn r = fop .mul (bif odd then fop .sub (cn W) (cn 4607182418800017408) else cn W) (cn 4605249457297304856) ∧ w' = w.drewN k := by
  have hb := bits_run
  have hf := from_run
  have d1 : ((E : Int) - 1023 - 52 + 61) / 64 = (D : Int) := by omega
  have d2 : ((E : Int) - 1023 - 52 + 61) % 64 = (S : Int) := by omega
  have d3 : (D : Int) + 3 < 20 := by omega
  have q1 : 0 ≤ L + 1 := by omega
  clear hDS
  go_enter Ybad.func37, Ybad.ntmps37
  go_wp2_with fail
  go_quiet (fail)
  go_wp2_with fail
  go_quiet (fail)
  go_wp2_with fail
  go_quiet (fail)
  go_wp2_with fail
  refine (hM2.out _).mono ?_
  rintro e w' ⟨rfl, rfl⟩
  go_wp2_with fail
  refine (hM1.out _).mono ?_
  rintro e w' ⟨rfl, rfl⟩
  go_wp2_with fail
  refine (hLZ.out _).mono ?_
  rintro e w' ⟨rfl, rfl⟩
  cases odd
  · go_wp2_with fail
    refine upon_float (by simp) ?_
    intro r n s
    go_wp2_with fail
    go_ret2
    exact ⟨r, _, rfl, s.out, rfl⟩
  · go_wp2_with fail
    refine upon_float (by simp) ?_
    intro r n s
    go_wp2_with fail
    refine upon_float (by simp) ?_
    intro r1 n1 s1
    go_wp2_with fail
    go_ret2
    exact ⟨r1, _, rfl, by rw [s1.out, s.out]; rfl, rfl⟩

def mpT : List Nat := [1, 5040379952546458195, 17892431488136887169, 13169980181085364355, 18204331823439776451, 7946843935494350272, 905889640498799673, 18175356263134875261, 15061281708168349961, 15220161563773041794, 8296664548579374057, 4109744767560208502, 4607516669194743839, 16023283104648321598, 15739233654134936430, 11424645774684705882, 16883842788696515318, 8795094592981902804, 15561835991111744016, 12395701187267450711]
/-- The table mPi4 lies as the text lays it. -/
def Pi4 (w : World) : Prop := ∀ k, k < 20 → w.cell? ⟨4, k, none⟩ = some (.int .u64 ((mpT.getD k 0 : Nat) : Int))

theorem bits_nat (op : BinOp) (a b : Int) : ∃ n : Nat, n < 18446744073709551616 ∧ bits op .u64 a b = (n : Int) := by
  have h1 := bits_lo_u64 op a b
  have h2 := bits_hi_u64 op a b
  exact ⟨(bits op .u64 a b).toNat, by omega, by omega⟩
theorem wrap_nat (a : Int) : ∃ n : Nat, n < 18446744073709551616 ∧ IntKind.u64.wrap a = (n : Int) := by
  rw [IntKind.wrap_u64]
  exact ⟨(a % 18446744073709551616).toNat, by omega, by omega⟩

/-- What Add64 gives, as natural numbers. -/
theorem add64_nat (x y c : Nat) (hx : x < 18446744073709551616) (hy : y < 18446744073709551616) (hc : c ≤ 1) : ∃ s d : Nat, s < 18446744073709551616 ∧ d ≤ 1 ∧ ∀ w, (callFunc 46 #[.int .u64 x, .int .u64 y, .int .u64 c]).run Ybad.prog w = .ok (.value (.tuple #[.int .u64 s, .int .u64 d])) w := by
  refine ⟨(x + y + c) % 18446744073709551616, (x + y + c) / 18446744073709551616, by omega, by omega, fun w => ?_⟩
  rw [add64_run x y c (by omega) (by omega) (by omega) (by omega) w]
  congr 5

theorem bitLenAux_le : ∀ f x, Lib.bitLenAux f x ≤ f
  | 0, _ => by simp [Lib.bitLenAux]
  | f + 1, x => by
    have := bitLenAux_le f (x / 2)
    unfold Lib.bitLenAux
    split <;> omega
theorem bitLen_le (x : Nat) : Lib.bitLen x ≤ 64 := bitLenAux_le 64 x

set_option maxHeartbeats 1000000 in
theorem trig_ex (x : Nat) (hx1 : 4737786807993761792 ≤ x) (hx2 : x < INF) :
    ∃ j z : Nat, j ≤ 7 ∧ ∀ w, Pi4 w → Calls Ybad.prog 37 #[.float .f64 x] w fun e w' => ∃ r k, e = .returned (.tuple #[.int .u64 j, .float .f64 r]) ∧ cn r = z ∧ w' = w.drewN k := by
  have hI : INF = 9218868437227405312 := by decide
  rw [hI] at hx2
  obtain ⟨E, hE⟩ : ∃ E, E = x / 4503599627370496 := ⟨_, rfl⟩
  have hE1 : 1052 ≤ E := by omega
  have hE2 : E ≤ 2046 := by omega
  have hand : bits BinOp.and IntKind.u64 ((x : Int) / 4503599627370496) 2047 = (E : Int) := by
    have h := bits_and_u64_nat E 2047 (by omega) (by omega)
    have e : E &&& 2047 = E % 2048 := Nat.and_two_pow_sub_one_eq_mod E 11
    rw [e, Nat.mod_eq_of_lt (by omega)] at h
    rw [show (x : Int) / 4503599627370496 = (E : Int) by omega]
    exact h
  have hlt : (FloatKind.f64.format.order x 4605249457297304856 == some .lt) = false := by
    show (Ieee.double.order x 4605249457297304856 == some .lt) = false
    have r1 : rg x = x := Nat.mod_eq_of_lt (by omega)
    have s1 : sg x = false := by unfold sg; simp; omega
    rw [order_lt (by rw [r1, hI]; exact hx2) (by decide)]
    have k2 : K 4605249457297304856 = 4605249457297304856 := by decide
    rw [k2]
    unfold K sgd
    rw [s1, r1]
    simp; omega
  obtain ⟨X, hX, hor⟩ := bits_nat .or (bits BinOp.andNot IntKind.u64 (x : Int) 9218868437227405312) 4503599627370496
  obtain ⟨D, S, hDS, hS⟩ : ∃ D S, E - 1014 = 64 * D + S ∧ S < 64 := ⟨(E - 1014) / 64, (E - 1014) % 64, by omega, by omega⟩
  have hD : D + 3 < 20 := by omega
  obtain ⟨Z0, hZ0, hz0⟩ := bits_nat .or (IntKind.u64.wrap (((mpT.getD D 0 : Nat) : Int) * 2 ^ S)) (((mpT.getD (D + 1) 0 : Nat) : Int) / 2 ^ (64 - S))
  obtain ⟨Z1, hZ1, hz1⟩ := bits_nat .or (IntKind.u64.wrap (((mpT.getD (D + 1) 0 : Nat) : Int) * 2 ^ S)) (((mpT.getD (D + 2) 0 : Nat) : Int) / 2 ^ (64 - S))
  obtain ⟨Z2, hZ2, hz2⟩ := bits_nat .or (IntKind.u64.wrap (((mpT.getD (D + 2) 0 : Nat) : Int) * 2 ^ S)) (((mpT.getD (D + 3) 0 : Nat) : Int) / 2 ^ (64 - S))
  have hM2 := fun w => Ybad.bits_Mul64 Z2 X hZ2 hX w
  have hM1 := fun w => Ybad.bits_Mul64 Z1 X hZ1 hX w
  obtain ⟨P0, hP0l, hP0⟩ := wrap_nat ((Z0 : Int) * (X : Int))
  have b1 : Z1 * X % 18446744073709551616 < 18446744073709551616 := Nat.mod_lt _ (by omega)
  have b2 : Z2 * X / 18446744073709551616 < 18446744073709551616 := Nat.div_lt_of_lt_mul (Nat.lt_of_le_of_lt (Nat.mul_le_mul_left _ (Nat.le_of_lt hX)) (Nat.mul_lt_mul_of_pos_right hZ2 (by omega)))
  have b3 : Z1 * X / 18446744073709551616 < 18446744073709551616 := Nat.div_lt_of_lt_mul (Nat.lt_of_le_of_lt (Nat.mul_le_mul_left _ (Nat.le_of_lt hX)) (Nat.mul_lt_mul_of_pos_right hZ1 (by omega)))
  generalize Z2 * X / 18446744073709551616 = A2 at hM2 b2
  generalize Z2 * X % 18446744073709551616 = B2 at hM2
  generalize Z1 * X / 18446744073709551616 = A1 at hM1 b3
  generalize Z1 * X % 18446744073709551616 = B1 at hM1 b1
  obtain ⟨LO, C1, hLO, hC1, hA1⟩ := add64_nat B1 A2 0 b1 b2 (by omega)
  obtain ⟨HI, C2, hHI, hC2, hA2⟩ := add64_nat P0 A1 C1 hP0l b3 hC1
  obtain ⟨H1, hH1, hh1⟩ := bits_nat .or (IntKind.u64.wrap ((HI : Int) * 8)) ((LO : Int) / 2305843009213693952)
  have hLZ := fun w => Ybad.bits_LeadingZeros64 (H1 : Int) w (by omega) (by omega)
  have hbl : Lib.bitLen (H1 : Int).toNat ≤ 64 := bitLen_le _
  generalize hl : (64 - ((Lib.bitLen (H1 : Int).toNat : Nat) : Int)) = L at hLZ
  obtain ⟨W, hWl, hW⟩ := bits_nat .or (bits BinOp.or IntKind.u64 (IntKind.u64.wrap ((H1 : Int) * 2 ^ min (L + 1).toNat 64)) ((LO : Int) / 2 ^ min (IntKind.u64.wrap (64 - (L + 1))).toNat 64) / 4096) ((1023 - (L + 1)) * 4503599627370496)
  obtain ⟨J, hJ⟩ : ∃ J : Nat, (HI : Int) / 2305843009213693952 = (J : Int) := ⟨HI / 2305843009213693952, by omega⟩
  have hJ7 : J ≤ 7 := by omega
  obtain ⟨J2, hJ2l, hJ2⟩ := bits_nat .and ((J : Int) + 1) 7
  have hJ27 : J2 ≤ 7 := by
    have h := bits_and_u64_nat (J + 1) 7 (by omega) (by omega)
    have e : (J + 1) &&& 7 = (J + 1) % 8 := Nat.and_two_pow_sub_one_eq_mod (J + 1) 3
    rw [e] at h
    have : (((J + 1 : Nat) : Int)) = (J : Int) + 1 := by omega
    rw [this] at h
    have h' : bits BinOp.and IntKind.u64 ((J : Int) + 1) 7 = (((J + 1) % 8 : Nat) : Int) := h
    rw [h'] at hJ2
    omega
  refine ⟨_, _, ?_, fun w hw => trig_core x E D S X Z0 Z1 Z2 _ _ _ _ w (by omega) hE1 hE2 hDS hS hX hlt hor hand (hw D (by omega)) (hw (D + 1) (by omega)) (hw (D + 2) (by omega)) (hw (D + 3) (by omega)) hz0 hz1 hz2 hZ0 hZ1 hZ2 A2 B2 A1 B1 P0 LO C1 HI C2 H1 L (by omega) (by omega) hHI hLO hH1 hM2 hM1 hP0 hA1 hA2 hh1 hLZ W J J2 hW hJ hJ7 hJ2 _ rfl⟩
  cases (bits BinOp.and IntKind.u64 (J : Int) 1 == 1)
  · exact hJ7
  · exact hJ27
end Go.Proofs.YbulkdswqDoor
