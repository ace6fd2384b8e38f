/- THE PLAIN LAW OF 5978C: -(x) / 2 and x * -0.5 round alike, at every word x. -/
import Derived.Test.YbulkdstyFloat
namespace Go.Proofs.Ybulkdsty
open Ieee
set_option linter.unusedVariables false

theorem log2_mul (n c : Nat) (hn : n ≠ 0) : (n * 2 ^ c).log2 = n.log2 + c := by
  induction c with
  | zero => simp
  | succ c ih =>
    rw [Nat.pow_succ, ← Nat.mul_assoc, Nat.mul_comm (n * 2 ^ c) 2, Nat.log2_two_mul (by have := Nat.two_pow_pos c; exact Nat.mul_ne_zero hn (by omega)), ih]
    omega

theorem cut_scale (neg : Bool) (n d c : Nat) : Toward.even.cut neg (n * 2 ^ c) (d + c) = Toward.even.cut neg n d := by
  by_cases hn : n = 0
  · subst hn; simp [Toward.cut]
  · have hg : 1 <<< min (d + c) ((n * 2 ^ c).log2 + 2) = (1 <<< min d (n.log2 + 2)) * 2 ^ c := by
      rw [log2_mul n c hn, show n.log2 + c + 2 = (n.log2 + 2) + c by omega, Nat.add_min_add_right, Nat.shiftLeft_eq, Nat.shiftLeft_eq, Nat.pow_add]
      simp
    have hp : 0 < 2 ^ c := Nat.two_pow_pos c
    unfold Toward.cut
    simp only [hg]
    generalize 1 <<< min d (n.log2 + 2) = g
    have h1 : n * 2 ^ c / (g * 2 ^ c) = n / g := Nat.mul_div_mul_right _ _ hp
    have h2 : n * 2 ^ c % (g * 2 ^ c) = n % g * 2 ^ c := Nat.mul_mod_mul_right _ _ _
    rw [h1, h2]
    have h3 : (g * 2 ^ c < 2 * (n % g * 2 ^ c)) ↔ (g < 2 * (n % g)) := by
      rw [← Nat.mul_assoc]; exact Nat.mul_lt_mul_right hp
    have h4 : (g * 2 ^ c == 2 * (n % g * 2 ^ c)) = (g == 2 * (n % g)) := by
      rw [← Nat.mul_assoc, Bool.eq_iff_iff]
      simp only [beq_iff_eq]
      exact ⟨fun h => Nat.eq_of_mul_eq_mul_right hp h, fun h => congrArg (· * 2 ^ c) h⟩
    simp only [h3, h4]

theorem nearest_scale (f : Format) (neg : Bool) (m a : Nat) (p : Int) : f.nearest neg (m * 2 ^ a) (p - a) = f.nearest neg m p := by
  by_cases hm : m = 0
  · subst hm; simp [Format.nearest]
  · have hp : 0 < 2 ^ a := Nat.two_pow_pos a
    have hma : m * 2 ^ a ≠ 0 := Nat.mul_ne_zero hm (by omega)
    unfold Format.nearest
    rw [if_neg hm, if_neg hma, log2_mul m a hm]
    have hl : p - (a : Int) + ((m.log2 + a : Nat) : Int) - f.fractionBits = p + (m.log2 : Nat) - f.fractionBits := by omega
    simp only [hl]
    generalize max (p + (m.log2 : Nat) - f.fractionBits) f.leastPlace = last
    have key : Toward.even.cut neg ((m * 2 ^ a) <<< (p - (a : Int) - last).toNat) (last - (p - (a : Int))).toNat = Toward.even.cut neg (m <<< (p - last).toNat) (last - p).toNat := by
      rw [Nat.shiftLeft_eq, Nat.shiftLeft_eq]
      by_cases h1 : 0 ≤ last - p
      · rw [show (p - (a : Int) - last).toNat = 0 by omega, show (p - last).toNat = 0 by omega, show (last - (p - (a : Int))).toNat = (last - p).toNat + a by omega]
        simp only [Nat.pow_zero, Nat.mul_one]
        exact cut_scale neg m _ a
      · by_cases h2 : (a : Int) ≤ p - last
        · rw [show (last - (p - (a : Int))).toNat = 0 by omega, show (last - p).toNat = 0 by omega, Nat.mul_assoc, ← Nat.pow_add, show a + (p - (a : Int) - last).toNat = (p - last).toNat by omega]
        · have e : a = (p - last).toNat + (last - (p - (a : Int))).toNat := by omega
          rw [show (p - (a : Int) - last).toNat = 0 by omega, show (last - p).toNat = 0 by omega]
          simp only [Nat.pow_zero, Nat.mul_one]
          have := cut_scale neg (m * 2 ^ (p - last).toNat) 0 (last - (p - (a : Int))).toNat
          rw [Nat.zero_add, Nat.mul_assoc, ← Nat.pow_add, ← e] at this
          exact this
    rw [key]

theorem read_neg (x : Nat) : double.read (Op.negFloat .f64 x) = (double.read x).opposite := by
  have e : Op.negFloat .f64 x = x ^^^ 2 ^ 63 := rfl
  have s : double.signWeight = 2 ^ 63 := rfl
  have h1 : (x ^^^ 2 ^ 63) % 2 ^ 63 = x % 2 ^ 63 := by
    rw [Nat.xor_mod_two_pow]; simp
  have h2 : (x ^^^ 2 ^ 63) / 2 ^ 63 = (x / 2 ^ 63) ^^^ 1 := by
    rw [Nat.xor_div_two_pow]
  have h3 : ((x / 2 ^ 63 ^^^ 1) % 2 == 1) = !(x / 2 ^ 63 % 2 == 1) := by
    have : (x / 2 ^ 63 ^^^ 1) % 2 = (x / 2 ^ 63) % 2 ^^^ 1 := by
      have := Nat.xor_mod_two_pow (a := x / 2 ^ 63) (b := 1) (n := 1)
      simpa using this
    rw [this]
    rcases Nat.mod_two_eq_zero_or_one (x / 2 ^ 63) with h | h <;> rw [h] <;> rfl
  rw [e]
  unfold Format.read
  simp only [s, h1, h2, h3]
  split
  · rfl
  · split
    · rfl
    · split <;> rfl

def mhalf : Nat := 13826050856027422720
def dtwo : Nat := 4611686018427387904

theorem read_mhalf : double.read mhalf = .number true (2 ^ 52) (-53) := by decide
theorem read_dtwo : double.read dtwo = .number false (2 ^ 52) (-51) := by decide

theorem mag_lt {x : Nat} {s : Bool} {m : Nat} {i : Int} (h : double.read x = .number s m i) : m < 2 ^ 53 := by
  unfold Format.read at h
  have bi : double.binade = 2 ^ 52 := rfl
  simp only [bi] at h
  split at h
  · cases h; omega
  · split at h
    · cases h
      have := Nat.mod_lt (x % double.signWeight) (show 0 < 2 ^ 52 by decide)
      omega
    · split at h <;> cases h

theorem half_bits (x : Nat) : floatBits .quo .f64 (Op.negFloat .f64 x) dtwo = floatBits .mul .f64 x mhalf := by
  show ((double.read (Op.negFloat .f64 x)).quotient 54 (double.read dtwo)).map double.write = ((double.read x).product (double.read mhalf)).map double.write
  rw [read_neg, read_mhalf, read_dtwo]
  cases h : double.read x with
  | nan s t => rfl
  | infinity s => simp [Datum.opposite, Datum.quotient, Datum.product, Format.write]
  | number s m i =>
    have hm := mag_lt h
    have hlog : m.log2 ≤ 52 := by
      by_cases h0 : m = 0
      · subst h0; simp
      · have := (Nat.log2_lt h0).2 hm; omega
    have l52 : (2 ^ 52 : Nat).log2 = 52 := by decide
    simp only [Datum.opposite, Datum.quotient, Datum.product, l52]
    rw [if_neg (by decide)]
    simp only [Option.map_some, Option.some.injEq]
    obtain ⟨c, hc⟩ : ∃ c, 54 + 52 - m.log2 = c + 52 := ⟨54 + 52 - m.log2 - 52, by omega⟩
    rw [hc]
    have e : m <<< (c + 52) = m * 2 ^ c * 2 ^ 52 := by rw [Nat.shiftLeft_eq, Nat.pow_add, Nat.mul_assoc]
    have q1 : m <<< (c + 52) / 2 ^ 52 = m * 2 ^ c := by rw [e]; exact Nat.mul_div_cancel _ (by decide)
    have q2 : (m <<< (c + 52) % 2 ^ 52 != 0) = false := by rw [e, Nat.mul_mod_left]; rfl
    rw [q1, q2]
    show double.nearest _ _ _ = double.nearest _ _ _
    have hs : (!s ^^ false) = (s ^^ true) := by cases s <;> rfl
    rw [hs]
    have n1 := nearest_scale double (s ^^ true) m (c + 1) (i - 1)
    have n2 := nearest_scale double (s ^^ true) m 52 (i - 1)
    have e1 : m * 2 ^ (c + 1) = 2 * (m * 2 ^ c) + (false : Bool).toNat := by rw [Nat.pow_succ]; simp; rw [← Nat.mul_assoc, Nat.mul_comm]
    rw [e1] at n1
    rw [show (i - 1 : Int) - ((c + 1 : Nat) : Int) = i - -51 - ((c + 52 : Nat) : Int) - 1 by omega] at n1
    rw [show (i - 1 : Int) - ((52 : Nat) : Int) = i + -53 by omega] at n2
    rw [n1, n2]

theorem half_law (x : Nat) : fop .quo (Op.negFloat .f64 x) dtwo = fop .mul x mhalf := by
  unfold fop; rw [half_bits]
end Go.Proofs.Ybulkdsty
