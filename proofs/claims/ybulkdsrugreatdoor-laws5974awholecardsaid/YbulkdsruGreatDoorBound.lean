import Derived.Test.YbulkdsruGreatDoorWord
namespace Go.Proofs.YbulkdsruGreatDoor
open Go.RowKit Ieee
set_option linter.unusedVariables false

def ONE : Nat := 1023 * B
theorem vl_ONE : vl ONE = 2 ^ 1074 := by decide +kernel

theorem mul_fin {x y : Nat} (hx : rg x < INF) (hy : rg y < INF) :
    floatBits .mul .f64 x y = some (double.word (sg x ^^ sg y) (min (rna 1074 (vl (rg x) * vl (rg y))) INF)) := by
  show ((double.read x).product (double.read y)).map double.write = _
  rw [read_fin hx, read_fin hy]
  show some (double.nearest (sg x ^^ sg y) (mg (rg x) * mg (rg y)) (-1074 + (ex (rg x) : Int) + (-1074 + (ex (rg y) : Int)))) = _
  have h := nearest_scale double (sg x ^^ sg y) (mg (rg x) * mg (rg y)) (ex (rg x) + ex (rg y)) (-1074 + (ex (rg x) : Int) + (-1074 + (ex (rg y) : Int)))
  rw [← h]
  have e : (-1074 + (ex (rg x) : Int) + (-1074 + (ex (rg y) : Int)) - ((ex (rg x) + ex (rg y) : Nat) : Int)) = -1074 - ((1074 : Nat) : Int) := by omega
  rw [e, near]
  congr 4
  unfold vl
  rw [Nat.pow_add]
  rw [Nat.mul_mul_mul_comm]

/-- What the quotient's digits come to at the most where the dividend is not above the divisor. -/
theorem digits_le {m n X : Nat} (hn : 0 < n) (h : m ≤ n * X) : 2 * (m / n) + (m % n != 0).toNat ≤ 2 * X := by
  have h1 : m / n ≤ X := by
    have := Nat.div_le_div_right (c := n) h
    rwa [Nat.mul_div_cancel_left _ hn] at this
  by_cases h2 : m / n = X
  · have h3 := Nat.div_add_mod m n
    rw [h2] at h3
    have h4 : m % n = 0 := by omega
    rw [h2, h4]; simp
  · have h5 : (m % n != 0).toNat ≤ 1 := by cases (m % n != 0) <;> simp
    omega

theorem more_le {m n ea eb : Nat} (hm0 : m ≠ 0) (hm : m.log2 ≤ 52) (hn : n ≠ 0) (h : m * 2 ^ ea ≤ n * 2 ^ eb) : ea ≤ eb + (54 + n.log2 - m.log2) := by
  refine Nat.le_of_not_lt fun hlt => ?_
  obtain ⟨c, hc⟩ : ∃ c, ea = eb + (54 + n.log2 - m.log2) + 1 + c := ⟨ea - (eb + (54 + n.log2 - m.log2) + 1), by omega⟩
  have h1 : 2 ^ m.log2 ≤ m := Nat.log2_self_le hm0
  have h2 : n < 2 ^ (n.log2 + 1) := Nat.lt_log2_self
  have h3 : 2 ^ m.log2 * 2 ^ ea ≤ n * 2 ^ eb := Nat.le_trans (Nat.mul_le_mul_right _ h1) h
  have h4 : n * 2 ^ eb < 2 ^ (n.log2 + 1) * 2 ^ eb := Nat.mul_lt_mul_of_pos_right h2 (Nat.two_pow_pos _)
  rw [← Nat.pow_add] at h3 h4
  have h5 := Nat.lt_of_le_of_lt h3 h4
  have h6 := (Nat.pow_lt_pow_iff_right (by decide : 1 < 2)).1 h5
  omega

theorem quo_le_one {x y : Nat} (hx : rg x < INF) (hy : rg y < INF) (h0 : 0 < vl (rg y)) (h : vl (rg x) ≤ vl (rg y)) :
    ∃ s r, floatBits .quo .f64 x y = some (double.word s r) ∧ r ≤ ONE := by
  have hm : (mg (rg x)).log2 ≤ 52 := by have := log2_lt_of (mg_lt (rg x)) (k := 53) (by omega); omega
  have hn : mg (rg y) ≠ 0 := by intro e; unfold vl at h0; rw [e] at h0; simp at h0
  have hv : mg (rg x) * 2 ^ ex (rg x) ≤ mg (rg y) * 2 ^ ex (rg y) := h
  show ∃ s r, ((double.read x).quotient 54 (double.read y)).map double.write = some (double.word s r) ∧ r ≤ ONE
  rw [read_fin hx, read_fin hy]
  generalize mg (rg x) = m at hm hv
  generalize mg (rg y) = n at hn hv
  generalize ex (rg x) = ea at hv
  generalize ex (rg y) = eb at hv
  simp only [Datum.quotient]
  rw [if_neg hn]
  generalize hmore : 54 + n.log2 - m.log2 = more
  generalize (sg x ^^ sg y) = s
  refine ⟨s, ?_⟩
  simp only [Option.map_some, Option.some.injEq]
  show ∃ r, double.nearest s (2 * (m <<< more / n) + (m <<< more % n != 0).toNat) (-1074 + (ea : Int) - (-1074 + (eb : Int)) - (more : Int) - 1) = double.word s r ∧ r ≤ ONE
  by_cases hm0 : m = 0
  · subst hm0
    have e : 2 * (0 <<< more / n) + (0 <<< more % n != 0).toNat = 0 := by simp
    rw [e]
    exact ⟨0, by simp [Format.nearest], by decide⟩
  · have hle := more_le hm0 hm hn hv
    rw [hmore] at hle
    obtain ⟨c, hc⟩ : ∃ c, eb + more = ea + c := ⟨eb + more - ea, by omega⟩
    have hD : m <<< more ≤ n * 2 ^ c := by
      rw [Nat.shiftLeft_eq]
      refine Nat.le_of_mul_le_mul_right ?_ (Nat.two_pow_pos ea)
      have e1 : m * 2 ^ more * 2 ^ ea = m * 2 ^ ea * 2 ^ more := Nat.mul_right_comm _ _ _
      have e2 : n * 2 ^ c * 2 ^ ea = n * 2 ^ eb * 2 ^ more := by
        rw [Nat.mul_assoc, ← Nat.pow_add, Nat.mul_assoc, ← Nat.pow_add]
        congr 2; omega
      rw [e1, e2]
      exact Nat.mul_le_mul_right _ hv
    have hM := digits_le (Nat.pos_of_ne_zero hn) hD
    generalize 2 * (m <<< more / n) + (m <<< more % n != 0).toNat = M at hM
    have hp : (-1074 + (ea : Int) - (-1074 + (eb : Int)) - (more : Int) - 1) = -(c : Int) - 1 := by omega
    rw [hp]
    have hs := nearest_scale double s M 1074 (-(c : Int) - 1)
    have e : (-(c : Int) - 1 - ((1074 : Nat) : Int)) = -1074 - ((c + 1 : Nat) : Int) := by omega
    rw [e, near] at hs
    rw [← hs]
    refine ⟨_, rfl, ?_⟩
    refine Nat.le_trans (Nat.min_le_left _ _) ?_
    have h1 : M * 2 ^ 1074 ≤ vl ONE * 2 ^ (c + 1) := by
      rw [vl_ONE]
      have e2 : 2 ^ (c + 1) = 2 * 2 ^ c := by rw [Nat.pow_succ, Nat.mul_comm]
      rw [e2]
      generalize (2 : Nat) ^ 1074 = Q
      rw [Nat.mul_comm Q]
      exact Nat.mul_le_mul_right _ hM
    have h2 := rna_mono (c + 1) h1
    rwa [rna_scale, rn_vl] at h2
end Go.Proofs.YbulkdsruGreatDoor
