import Derived.Test.YbulkdsruGreatDoorBound
namespace Go.Proofs.YbulkdsruGreatDoor
open Go.RowKit Ieee
set_option linter.unusedVariables false

def W255 : Nat := 4607147234427928576
theorem vl_W255 : vl W255 = 255 * 2 ^ 1066 := by decide +kernel
theorem more_le8 {m n ea eb : Nat} (hm0 : m ≠ 0) (hm : m.log2 ≤ 52) (hn : n ≠ 0) (h : m * 2 ^ ea ≤ n * 2 ^ eb) : ea + 8 ≤ eb + (54 + n.log2 - m.log2) := by
  refine Nat.le_of_not_lt fun hlt => ?_
  have h1 : 2 ^ m.log2 ≤ m := Nat.log2_self_le hm0
  have h2 : n < 2 ^ (n.log2 + 1) := Nat.lt_log2_self
  have h3 : 2 ^ m.log2 * 2 ^ ea ≤ n * 2 ^ eb := Nat.le_trans (Nat.mul_le_mul_right _ h1) h
  have h4 : n * 2 ^ eb < 2 ^ (n.log2 + 1) * 2 ^ eb := Nat.mul_lt_mul_of_pos_right h2 (Nat.two_pow_pos _)
  rw [← Nat.pow_add] at h3 h4
  have h5 := Nat.lt_of_le_of_lt h3 h4
  have h6 := (Nat.pow_lt_pow_iff_right (by decide : 1 < 2)).1 h5
  omega

theorem quo_le_frac {x y : Nat} (hx : rg x < INF) (hy : rg y < INF) (h0 : 0 < vl (rg y)) (h : 256 * vl (rg x) ≤ 255 * vl (rg y)) :
    ∃ s r, floatBits .quo .f64 x y = some (double.word s r) ∧ r ≤ W255 := by
  have hm : (mg (rg x)).log2 ≤ 52 := by have := log2_lt_of (mg_lt (rg x)) (k := 53) (by omega); omega
  have hn : mg (rg y) ≠ 0 := by intro e; unfold vl at h0; rw [e] at h0; simp at h0
  have hv256 : 256 * (mg (rg x) * 2 ^ ex (rg x)) ≤ 255 * (mg (rg y) * 2 ^ ex (rg y)) := h
  have hv : mg (rg x) * 2 ^ ex (rg x) ≤ mg (rg y) * 2 ^ ex (rg y) := by omega
  show ∃ s r, ((double.read x).quotient 54 (double.read y)).map double.write = some (double.word s r) ∧ r ≤ W255
  rw [read_fin hx, read_fin hy]
  generalize mg (rg x) = m at hm hv hv256
  generalize mg (rg y) = n at hn hv hv256
  generalize ex (rg x) = ea at hv hv256
  generalize ex (rg y) = eb at hv hv256
  simp only [Datum.quotient]
  rw [if_neg hn]
  generalize hmore : 54 + n.log2 - m.log2 = more
  generalize (sg x ^^ sg y) = s
  refine ⟨s, ?_⟩
  simp only [Option.map_some, Option.some.injEq]
  show ∃ r, double.nearest s (2 * (m <<< more / n) + (m <<< more % n != 0).toNat) (-1074 + (ea : Int) - (-1074 + (eb : Int)) - (more : Int) - 1) = double.word s r ∧ r ≤ W255
  by_cases hm0 : m = 0
  · subst hm0
    have e : 2 * (0 <<< more / n) + (0 <<< more % n != 0).toNat = 0 := by simp
    rw [e]
    exact ⟨0, by simp [Format.nearest], by decide⟩
  · have hle := more_le8 hm0 hm hn hv
    rw [hmore] at hle
    obtain ⟨c, hc⟩ : ∃ c, eb + more = ea + (c + 8) := ⟨eb + more - ea - 8, by omega⟩
    have hD : m <<< more ≤ n * (255 * 2 ^ c) := by
      rw [Nat.shiftLeft_eq]
      refine Nat.le_of_mul_le_mul_right (Nat.le_of_mul_le_mul_left ?_ (show 0 < 256 by omega)) (Nat.two_pow_pos ea)
      have e1 : 256 * (m * 2 ^ more * 2 ^ ea) = 256 * (m * 2 ^ ea) * 2 ^ more := by rw [Nat.mul_right_comm m, ← Nat.mul_assoc 256]
      have e2 : 256 * (n * (255 * 2 ^ c) * 2 ^ ea) = 255 * (n * 2 ^ eb) * 2 ^ more := by
        have e3 : 2 ^ eb * 2 ^ more = 256 * (2 ^ c * 2 ^ ea) := by
          rw [← Nat.pow_add, hc, ← Nat.pow_add, show (256 : Nat) = 2 ^ 8 by decide, ← Nat.pow_add]
          congr 1; omega
        have e5 : 255 * (n * 2 ^ eb) * 2 ^ more = 255 * (n * (2 ^ eb * 2 ^ more)) := by simp only [Nat.mul_assoc]
        rw [e5, e3]
        generalize 2 ^ ea = E'
        generalize 2 ^ c = C'
        simp only [Nat.mul_assoc, Nat.mul_comm, Nat.mul_left_comm]
      rw [e1, e2]
      exact Nat.mul_le_mul_right _ hv256
    have hM := digits_le (Nat.pos_of_ne_zero hn) hD
    generalize 2 * (m <<< more / n) + (m <<< more % n != 0).toNat = M at hM
    have hp : (-1074 + (ea : Int) - (-1074 + (eb : Int)) - (more : Int) - 1) = -((c + 8 : Nat) : Int) - 1 := by omega
    rw [hp]
    have hs := nearest_scale double s M 1074 (-((c + 8 : Nat) : Int) - 1)
    have e : (-((c + 8 : Nat) : Int) - 1 - ((1074 : Nat) : Int)) = -1074 - ((c + 9 : Nat) : Int) := by omega
    rw [e, near] at hs
    rw [← hs]
    refine ⟨_, rfl, ?_⟩
    refine Nat.le_trans (Nat.min_le_left _ _) ?_
    have h1 : M * 2 ^ 1074 ≤ vl W255 * 2 ^ (c + 9) := by
      rw [vl_W255]
      have e2 : 2 ^ (c + 9) = 2 * 256 * 2 ^ c := by rw [Nat.pow_add, Nat.mul_comm]
      have e4 : (2 : Nat) ^ 1074 = 2 ^ 1066 * 256 := by decide +kernel
      rw [e2, e4]
      generalize (2 : Nat) ^ 1066 = Q
      have : 255 * Q * (2 * 256 * 2 ^ c) = 2 * (255 * 2 ^ c) * (Q * 256) := by
        simp only [Nat.mul_assoc, Nat.mul_comm, Nat.mul_left_comm]
      rw [this]
      exact Nat.mul_le_mul_right _ hM
    have h2 := rna_mono (c + 9) h1
    rwa [rna_scale, rn_vl] at h2
end Go.Proofs.YbulkdsruGreatDoor
