import Derived.Test.YbulkdswqDoorWalkSa
namespace Go.Proofs.YbulkdswqDoor
open Go.RowKit Ieee
set_option linter.unusedVariables false

def CC : Nat := 4608412980311869571
def A29 : Nat := 4737786807993761792
def MM : Nat := 5734161139222659
def TOP : Nat := 4739017369505613955
theorem read_CC : double.read CC = .number false MM (-52) := by decide

theorem word_false (r : Nat) : double.word false r = r := by simp [Format.word]

theorem mulC {a : Nat} (ha : a < A29) : floatBits .mul .f64 a CC = some (min (rna 52 (vl a * MM)) INF) := by
  have hA : A29 < INF := by decide
  have hI := INF_lt
  have r1 : rg a = a := Nat.mod_eq_of_lt (by omega)
  have s1 : sg a = false := by unfold sg; simp; omega
  show ((double.read a).product (double.read CC)).map double.write = _
  rw [read_fin (x := a) (by omega), read_CC, r1, s1]
  show some (double.nearest false (mg a * MM) (-1074 + (ex a : Int) + -52)) = _
  have h := nearest_scale double false (mg a * MM) (ex a) (-1074 + (ex a : Int) + -52)
  rw [← h]
  have e : (-1074 + (ex a : Int) + -52 - (ex a : Int)) = -1074 - ((52 : Nat) : Int) := by omega
  rw [e, near, word_false]
  congr 3
  unfold vl
  rw [Nat.mul_right_comm]

theorem rna_top : rna 52 (vl A29 * MM) = TOP := by decide +kernel

theorem cut_zero_le (n d : Nat) : Toward.zero.cut false n d ≤ n := by
  have e : Toward.zero.cut false n d = n / 1 <<< min d (n.log2 + 2) + 0 := rfl
  rw [e]
  exact Nat.div_le_self _ _

theorem prod_small {a : Nat} (ha : a < A29) : ∃ r, r ≤ TOP ∧ fop .mul a CC = r := by
  have hx := mulC ha
  have hT : TOP < INF := by decide
  have hle : rna 52 (vl a * MM) ≤ TOP := by
    have h := rna_mono 52 (x := vl a * MM) (y := vl A29 * MM) (Nat.mul_le_mul_right _ (vl_le (Nat.le_of_lt ha)))
    rwa [rna_top] at h
  refine ⟨min (rna 52 (vl a * MM)) INF, Nat.le_trans (Nat.min_le_left _ _) hle, ?_⟩
  unfold fop
  rw [hx, Option.getD_some]

theorem read_small {r : Nat} (h : r ≤ TOP) : double.read r = .number false (mg r) (-1074 + (ex r : Int)) := by
  have hT : TOP < INF := by decide
  have hI := INF_lt
  have r1 : rg r = r := Nat.mod_eq_of_lt (by omega)
  have s1 : sg r = false := by unfold sg; simp; omega
  have := read_fin (x := r) (by rw [r1]; omega)
  rwa [r1, s1] at this

theorem ex_small {r : Nat} (h : r ≤ TOP) : ex r ≤ 1051 := by
  unfold ex
  split
  · omega
  · have h2 : r / B ≤ TOP / B := Nat.div_le_div_right h
    have h3 : TOP / B = 1052 := by decide
    omega

theorem mg_small (r : Nat) : mg r < 2 ^ 53 := by
  have h := mg_lt r
  have hB : 2 * B = 2 ^ 53 := by decide
  rwa [hB] at h

theorem signed_false (m : Nat) : signed false m 0 = (m : Int) := by simp [signed]

theorem int_small {r : Nat} (h : r ≤ TOP) : (FloatKind.f64.decode r).toInt .zero = some ((Toward.zero.cut false (mg r) (1074 - ex r) : Nat) : Int) := by
  have e0 : FloatKind.f64.decode r = .number false (mg r) (-1074 + (ex r : Int)) := read_small h
  have hex := ex_small h
  rw [e0]
  have e1 : (-1074 + (ex r : Int)).toNat = 0 := by omega
  have e2 : (-(-1074 + (ex r : Int))).toNat = 1074 - ex r := by omega
  unfold Datum.toInt Datum.integral
  simp only [e1, e2, Nat.shiftLeft_zero, signed_false]

theorem toint_small {r n : Nat} (hn : n < 2 ^ 53) (h : (FloatKind.f64.decode r).toInt .zero = some (n : Int)) : floatToIntVal .f64 r .u64 = some (n : Int) := by
  unfold floatToIntVal
  rw [h]
  have h1 : IntKind.u64.min = 0 := rfl
  have h2 : IntKind.u64.max = 18446744073709551615 := rfl
  have h3 : IntKind.u64.min ≤ (n : Int) ∧ (n : Int) ≤ IntKind.u64.max := by
    rw [h1, h2]; omega
  exact if_pos h3

theorem nan_small {r : Nat} (h : r ≤ TOP) : isNaN r = false := by
  unfold isNaN
  rw [read_small h]
  rfl

theorem red_small {a : Nat} (ha : a < A29) : ∃ n : Nat, n < 2 ^ 53 ∧ floatToIntVal .f64 (fop .mul (cn a) (cn CC)) .u64 = some (n : Int) ∧ isNaN (fop .mul (cn a) (cn CC)) = false := by
  rw [fop_cn]
  obtain ⟨r, hr, e⟩ := prod_small ha
  rw [e]
  have hn : Toward.zero.cut false (mg r) (1074 - ex r) < 2 ^ 53 := Nat.lt_of_le_of_lt (cut_zero_le _ _) (mg_small r)
  exact ⟨_, hn, toint_small hn (int_small hr), nan_small hr⟩

/-- The reduction always ends in an octant. -/
theorem red_ex (a : Nat) (h0 : 0 < a) (hf : a < INF) : ∃ J Z, J ≤ 7 ∧ Red a J Z := by
  by_cases h : A29 ≤ a
  · obtain ⟨j, z, hj, hc⟩ := trig_ex a h hf
    exact ⟨j, z, hj, .inl ⟨h, hc⟩⟩
  · obtain ⟨n, h1, h2, h3⟩ := red_small (a := a) (by omega)
    exact ⟨_, _, by omega, .inr ⟨by unfold A29 at h; omega, n, h1, h2, h3, rfl, rfl⟩⟩

end Go.Proofs.YbulkdswqDoor
