/- PLAIN: rounding to nearest on rungs. No Go in sight. -/
import Derived.Test.YbulkdsruGreatDoorFloat
namespace Go.Proofs.YbulkdsruGreatDoor
open Ieee
set_option linter.unusedVariables false

theorem log2_mul (n c : Nat) (hn : n ≠ 0) : (n * 2 ^ c).log2 = n.log2 + c := by
  induction c with
  | zero => simp
  | succ c ih =>
    rw [Nat.pow_succ, ← Nat.mul_assoc, Nat.mul_comm (n * 2 ^ c) 2, Nat.log2_two_mul (by have := Nat.two_pow_pos c; exact Nat.mul_ne_zero hn (by omega)), ih]
    omega

theorem cut_scale (neg : Bool) (n d c : Nat) : Toward.even.cut neg (n * 2 ^ c) (d + c) = Toward.even.cut neg n d := by
  by_cases hn : n = 0
  · subst hn; simp [Toward.cut]
  · have hg : 1 <<< min (d + c) ((n * 2 ^ c).log2 + 2) = (1 <<< min d (n.log2 + 2)) * 2 ^ c := by
      rw [log2_mul n c hn, show n.log2 + c + 2 = (n.log2 + 2) + c by omega, Nat.add_min_add_right, Nat.shiftLeft_eq, Nat.shiftLeft_eq, Nat.pow_add]
      simp
    have hp : 0 < 2 ^ c := Nat.two_pow_pos c
    unfold Toward.cut
    simp only [hg]
    generalize 1 <<< min d (n.log2 + 2) = g
    have h1 : n * 2 ^ c / (g * 2 ^ c) = n / g := Nat.mul_div_mul_right _ _ hp
    have h2 : n * 2 ^ c % (g * 2 ^ c) = n % g * 2 ^ c := Nat.mul_mod_mul_right _ _ _
    rw [h1, h2]
    have h3 : (g * 2 ^ c < 2 * (n % g * 2 ^ c)) ↔ (g < 2 * (n % g)) := by
      rw [← Nat.mul_assoc]; exact Nat.mul_lt_mul_right hp
    have h4 : (g * 2 ^ c == 2 * (n % g * 2 ^ c)) = (g == 2 * (n % g)) := by
      rw [← Nat.mul_assoc, Bool.eq_iff_iff]
      simp only [beq_iff_eq]
      exact ⟨fun h => Nat.eq_of_mul_eq_mul_right hp h, fun h => congrArg (· * 2 ^ c) h⟩
    simp only [h3, h4]

theorem nearest_scale (f : Format) (neg : Bool) (m a : Nat) (p : Int) : f.nearest neg (m * 2 ^ a) (p - a) = f.nearest neg m p := by
  by_cases hm : m = 0
  · subst hm; simp [Format.nearest]
  · have hp : 0 < 2 ^ a := Nat.two_pow_pos a
    have hma : m * 2 ^ a ≠ 0 := Nat.mul_ne_zero hm (by omega)
    unfold Format.nearest
    rw [if_neg hm, if_neg hma, log2_mul m a hm]
    have hl : p - (a : Int) + ((m.log2 + a : Nat) : Int) - f.fractionBits = p + (m.log2 : Nat) - f.fractionBits := by omega
    simp only [hl]
    generalize max (p + (m.log2 : Nat) - f.fractionBits) f.leastPlace = last
    have key : Toward.even.cut neg ((m * 2 ^ a) <<< (p - (a : Int) - last).toNat) (last - (p - (a : Int))).toNat = Toward.even.cut neg (m <<< (p - last).toNat) (last - p).toNat := by
      rw [Nat.shiftLeft_eq, Nat.shiftLeft_eq]
      by_cases h1 : 0 ≤ last - p
      · rw [show (p - (a : Int) - last).toNat = 0 by omega, show (p - last).toNat = 0 by omega, show (last - (p - (a : Int))).toNat = (last - p).toNat + a by omega]
        simp only [Nat.pow_zero, Nat.mul_one]
        exact cut_scale neg m _ a
      · by_cases h2 : (a : Int) ≤ p - last
        · rw [show (last - (p - (a : Int))).toNat = 0 by omega, show (last - p).toNat = 0 by omega, Nat.mul_assoc, ← Nat.pow_add, show a + (p - (a : Int) - last).toNat = (p - last).toNat by omega]
        · have e : a = (p - last).toNat + (last - (p - (a : Int))).toNat := by omega
          rw [show (p - (a : Int) - last).toNat = 0 by omega, show (last - p).toNat = 0 by omega]
          simp only [Nat.pow_zero, Nat.mul_one]
          have := cut_scale neg (m * 2 ^ (p - last).toNat) 0 (last - (p - (a : Int))).toNat
          rw [Nat.zero_add, Nat.mul_assoc, ← Nat.pow_add, ← e] at this
          exact this
    rw [key]

theorem read_neg (x : Nat) : double.read (Op.negFloat .f64 x) = (double.read x).opposite := by
  have e : Op.negFloat .f64 x = x ^^^ 2 ^ 63 := rfl
  have s : double.signWeight = 2 ^ 63 := rfl
  have h1 : (x ^^^ 2 ^ 63) % 2 ^ 63 = x % 2 ^ 63 := by
    rw [Nat.xor_mod_two_pow]; simp
  have h2 : (x ^^^ 2 ^ 63) / 2 ^ 63 = (x / 2 ^ 63) ^^^ 1 := by
    rw [Nat.xor_div_two_pow]
  have h3 : ((x / 2 ^ 63 ^^^ 1) % 2 == 1) = !(x / 2 ^ 63 % 2 == 1) := by
    have : (x / 2 ^ 63 ^^^ 1) % 2 = (x / 2 ^ 63) % 2 ^^^ 1 := by
      have := Nat.xor_mod_two_pow (a := x / 2 ^ 63) (b := 1) (n := 1)
      simpa using this
    rw [this]
    rcases Nat.mod_two_eq_zero_or_one (x / 2 ^ 63) with h | h <;> rw [h] <;> rfl
  rw [e]
  unfold Format.read
  simp only [s, h1, h2, h3]
  split
  · rfl
  · split
    · rfl
    · split <;> rfl

theorem mag_lt {x : Nat} {s : Bool} {m : Nat} {i : Int} (h : double.read x = .number s m i) : m < 2 ^ 53 := by
  unfold Format.read at h
  have bi : double.binade = 2 ^ 52 := rfl
  simp only [bi] at h
  split at h
  · cases h; omega
  · split at h
    · cases h
      have := Nat.mod_lt (x % double.signWeight) (show 0 < 2 ^ 52 by decide)
      omega
    · split at h <;> cases h


/-! ### Rounding to nearest, ties to even -/
def rhe (n g : Nat) : Nat := n / g + (if g < 2 * (n % g) ∨ (g = 2 * (n % g) ∧ n / g % 2 = 1) then 1 else 0)

theorem cut_rhe (neg : Bool) (n d : Nat) : Toward.even.cut neg n d = rhe n (2 ^ d) := by
  have key : ∀ g, (n / g + (decide (g < 2 * (n % g)) || (g == 2 * (n % g) && n / g % 2 == 1)).toNat) = rhe n g := by
    intro g
    unfold rhe
    by_cases h1 : g < 2 * (n % g)
    · simp [h1]
    · by_cases h2 : g = 2 * (n % g) ∧ n / g % 2 = 1
      · obtain ⟨h2, h3⟩ := h2
        have e : (g == 2 * (n % g)) = true := by simpa using h2
        rw [if_pos (Or.inr ⟨h2, h3⟩)]
        simp [h1, e, h3]
      · rw [if_neg (by intro h; rcases h with h | h; exact h1 h; exact h2 h)]
        have e : (g == 2 * (n % g) && n / g % 2 == 1) = false := by
          rw [Bool.and_eq_false_iff]
          by_cases e1 : g = 2 * (n % g)
          · right; simpa using fun h => h2 ⟨e1, h⟩
          · left; simpa using e1
        simp [h1, e]
  unfold Toward.cut
  simp only [key, Nat.shiftLeft_eq, Nat.one_mul]
  by_cases hd : d ≤ n.log2 + 2
  · rw [Nat.min_eq_left hd]
  · rw [Nat.min_eq_right (by omega)]
    have small : ∀ c, n.log2 + 2 ≤ c → rhe n (2 ^ c) = 0 := by
      intro c hc
      have hn : n < 2 ^ (n.log2 + 1) := Nat.lt_log2_self
      have h2 : 2 ^ (n.log2 + 1) * 2 ≤ 2 ^ c := by
        rw [← Nat.pow_succ]; exact Nat.pow_le_pow_right (by omega) (by omega)
      unfold rhe
      rw [Nat.div_eq_of_lt (by omega), Nat.mod_eq_of_lt (by omega), if_neg (by omega)]
    rw [small _ (Nat.le_refl _), small _ (by omega)]

theorem rhe_mono {a b g : Nat} (hg : 0 < g) (h : a ≤ b) : rhe a g ≤ rhe b g := by
  have hq : a / g ≤ b / g := Nat.div_le_div_right h
  unfold rhe
  by_cases e : a / g = b / g
  · have ha := Nat.div_add_mod a g
    have hb := Nat.div_add_mod b g
    rw [e] at ha
    have hr : a % g ≤ b % g := by omega
    rw [e]
    split
    · rename_i h1
      rw [if_pos (by
        rcases h1 with h1 | ⟨h1, h2⟩
        · left; omega
        · by_cases e2 : a % g = b % g
          · right; rw [← e2]; exact ⟨h1, h2⟩
          · left; omega)]
      exact Nat.le_refl _
    · omega
  · split <;> omega

theorem rhe_exact (n : Nat) {g : Nat} (hg : 0 < g) : rhe (n * g) g = n := by
  unfold rhe
  rw [Nat.mul_div_cancel _ hg, Nat.mul_mod_left, if_neg (by omega)]
  rfl
theorem rhe_le {n k g : Nat} (hg : 0 < g) (h : n ≤ k * g) : rhe n g ≤ k := by
  have := rhe_mono hg h
  rwa [rhe_exact k hg] at this
theorem le_rhe {n k g : Nat} (hg : 0 < g) (h : k * g ≤ n) : k ≤ rhe n g := by
  have := rhe_mono hg h
  rwa [rhe_exact k hg] at this

/-! ### Rungs: 'mg', 'ex', 'vl' read one; 'rn' finds the one nearest to a whole number of units 2^-1074 -/
def B : Nat := 2 ^ 52
def INF : Nat := 2047 * 2 ^ 52
def mg (r : Nat) : Nat := if r < B then r else B + r % B
def ex (r : Nat) : Nat := if r < B then 0 else r / B - 1
def vl (r : Nat) : Nat := mg r * 2 ^ ex r
def rn (n : Nat) : Nat := (n.log2 - 52) * B + rhe n (2 ^ (n.log2 - 52))

theorem log2_lt_of {n k : Nat} (h : n < 2 ^ k) (hk : 0 < k) : n.log2 < k := by
  by_cases h0 : n = 0
  · subst h0; simpa using hk
  · exact (Nat.log2_lt h0).2 h

theorem log2_mono {a b : Nat} (h : a ≤ b) : a.log2 ≤ b.log2 := by
  by_cases h0 : b = 0
  · subst h0; have : a = 0 := by omega
    subst this; exact Nat.le_refl _
  · by_cases ha : a = 0
    · subst ha; simp
    · exact (Nat.le_log2 h0).2 (Nat.le_trans (Nat.log2_self_le ha) h)

theorem rn_mono {a b : Nat} (h : a ≤ b) : rn a ≤ rn b := by
  have hl := log2_mono h
  unfold rn
  by_cases e : a.log2 - 52 = b.log2 - 52
  · rw [e]
    have := rhe_mono (g := 2 ^ (b.log2 - 52)) (Nat.two_pow_pos _) h
    omega
  · have hd : a.log2 - 52 + 1 ≤ b.log2 - 52 := by omega
    have h1 : rhe a (2 ^ (a.log2 - 52)) ≤ 2 * B := by
      refine rhe_le (Nat.two_pow_pos _) ?_
      have ha : a < 2 ^ (a.log2 + 1) := Nat.lt_log2_self
      have : 2 ^ (a.log2 + 1) ≤ 2 * B * 2 ^ (a.log2 - 52) := by
        rw [show 2 * B = 2 ^ 53 from rfl, ← Nat.pow_add]
        exact Nat.pow_le_pow_right (by omega) (by omega)
      omega
    have h2 : B ≤ rhe b (2 ^ (b.log2 - 52)) := by
      refine le_rhe (Nat.two_pow_pos _) ?_
      have hb0 : b ≠ 0 := by intro h0; rw [h0] at hd; simp at hd
      have hb := Nat.log2_self_le hb0
      rw [show B = 2 ^ 52 from rfl, ← Nat.pow_add, show 52 + (b.log2 - 52) = b.log2 by omega]
      exact hb
    have h3 : (a.log2 - 52 + 1) * B ≤ (b.log2 - 52) * B := Nat.mul_le_mul_right _ hd
    rw [Nat.add_mul, Nat.one_mul] at h3
    omega

theorem B_pos : 0 < B := by decide
theorem mg_lt (r : Nat) : mg r < 2 * B := by
  unfold mg
  split
  · omega
  · have := Nat.mod_lt r B_pos; omega

theorem log2_eq {n k : Nat} (h1 : 2 ^ k ≤ n) (h2 : n < 2 ^ (k + 1)) : n.log2 = k := by
  have hp := Nat.two_pow_pos k
  have h0 : n ≠ 0 := by omega
  have a := (Nat.le_log2 h0).2 h1
  have b := (Nat.log2_lt h0).2 h2
  omega

theorem rn_vl (r : Nat) : rn (vl r) = r := by
  unfold vl
  by_cases h : r < B
  · have e1 : mg r = r := by simp [mg, h]
    have e2 : ex r = 0 := by simp [ex, h]
    have hl : r.log2 < 52 := log2_lt_of (k := 52) h (by omega)
    rw [e1, e2]
    unfold rn
    rw [Nat.pow_zero, Nat.mul_one, show r.log2 - 52 = 0 by omega]
    have := rhe_exact r (g := 1) (by omega)
    rw [Nat.mul_one] at this
    rw [Nat.pow_zero, this]; omega
  · have e1 : mg r = B + r % B := by simp [mg, h]
    have e2 : ex r = r / B - 1 := by simp [ex, h]
    have hm := Nat.mod_lt r B_pos
    have hlog : (B + r % B).log2 = 52 := log2_eq (k := 52) (by show B ≤ _; omega) (by show _ < 2 * B; omega)
    have hne : B + r % B ≠ 0 := by have := B_pos; omega
    rw [e1, e2]
    unfold rn
    rw [log2_mul _ _ hne, hlog, show 52 + (r / B - 1) - 52 = r / B - 1 by omega, rhe_exact _ (Nat.two_pow_pos _)]
    have hd := Nat.div_add_mod r B
    have hq : 1 ≤ r / B := (Nat.one_le_div_iff B_pos).2 (by omega)
    have : (r / B - 1) * B + B = r / B * B := by
      rw [← Nat.succ_mul]; congr 1; omega
    rw [Nat.mul_comm] at hd
    omega

theorem vl_lt {a b : Nat} (h : a < b) : vl a < vl b := by
  refine Nat.lt_of_not_le fun hn => ?_
  have := rn_mono hn
  rw [rn_vl, rn_vl] at this
  omega
theorem vl_le {a b : Nat} (h : a ≤ b) : vl a ≤ vl b := by
  by_cases e : a = b
  · subst e; exact Nat.le_refl _
  · exact Nat.le_of_lt (vl_lt (by omega))
theorem vl_zero : vl 0 = 0 := by decide
end Go.Proofs.YbulkdsruGreatDoor
