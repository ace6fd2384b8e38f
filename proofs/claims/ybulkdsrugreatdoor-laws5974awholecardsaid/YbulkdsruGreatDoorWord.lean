/- PLAIN: words of float64, their order and their sums, over rungs. No Go in sight. -/
import Derived.Test.YbulkdsruGreatDoorRung
namespace Go.Proofs.YbulkdsruGreatDoor
open Ieee
set_option linter.unusedVariables false

/-! ### Rounding at a place a digits below the least -/
def rna (a n : Nat) : Nat := (max (n.log2 - 52) a - a) * B + rhe n (2 ^ max (n.log2 - 52) a)

theorem rna_zero (n : Nat) : rna 0 n = rn n := by simp [rna, rn]

theorem rna_mono (a : Nat) {x y : Nat} (h : x ≤ y) : rna a x ≤ rna a y := by
  have hl := log2_mono h
  unfold rna
  by_cases e : max (x.log2 - 52) a = max (y.log2 - 52) a
  · rw [e]
    have := rhe_mono (g := 2 ^ max (y.log2 - 52) a) (Nat.two_pow_pos _) h
    omega
  · have hd : max (x.log2 - 52) a + 1 ≤ max (y.log2 - 52) a := by omega
    have hy : max (y.log2 - 52) a = y.log2 - 52 := by omega
    have h1 : rhe x (2 ^ max (x.log2 - 52) a) ≤ 2 * B := by
      refine rhe_le (Nat.two_pow_pos _) ?_
      have ha : x < 2 ^ (x.log2 + 1) := Nat.lt_log2_self
      have : 2 ^ (x.log2 + 1) ≤ 2 * B * 2 ^ max (x.log2 - 52) a := by
        rw [show 2 * B = 2 ^ 53 from rfl, ← Nat.pow_add]
        exact Nat.pow_le_pow_right (by omega) (by omega)
      omega
    have h2 : B ≤ rhe y (2 ^ max (y.log2 - 52) a) := by
      refine le_rhe (Nat.two_pow_pos _) ?_
      have hb0 : y ≠ 0 := by intro h0; rw [h0] at hd; simp at hd; omega
      have hb := Nat.log2_self_le hb0
      rw [show B = 2 ^ 52 from rfl, ← Nat.pow_add, show 52 + max (y.log2 - 52) a = y.log2 by omega]
      exact hb
    have h3 : (max (x.log2 - 52) a - a + 1) * B ≤ (max (y.log2 - 52) a - a) * B := Nat.mul_le_mul_right _ (by omega)
    rw [Nat.add_mul, Nat.one_mul] at h3
    omega

theorem rhe_scale (n d c : Nat) : rhe (n * 2 ^ c) (2 ^ (d + c)) = rhe n (2 ^ d) := by
  rw [← cut_rhe false, ← cut_rhe false]; exact cut_scale false n d c

theorem rna_scale (a n : Nat) : rna a (n * 2 ^ a) = rn n := by
  by_cases h0 : n = 0
  · subst h0; simp [rna, rn, rhe]
  · unfold rna rn
    rw [log2_mul n a h0]
    have e : max (n.log2 + a - 52) a = (n.log2 - 52) + a := by omega
    rw [e, rhe_scale, Nat.add_sub_cancel]

theorem near (neg : Bool) (n a : Nat) : double.nearest neg n (-1074 - a) = double.word neg (min (rna a n) INF) := by
  unfold Format.nearest
  by_cases h0 : n = 0
  · subst h0; simp [rna, rhe]
  · rw [if_neg h0]
    have lp : double.leastPlace = -1074 := by decide
    have fb : ((double.fractionBits : Nat) : Int) = 52 := rfl
    have bi : double.binade = B := rfl
    have inf : double.infRung = INF := rfl
    rw [lp, fb, bi, inf]
    have hl : max ((-1074 : Int) - (a : Int) + (n.log2 : Int) - 52) (-1074) = -1074 - (a : Int) + ((max (n.log2 - 52) a : Nat) : Int) := by omega
    simp only [hl]
    rw [show ((-1074 : Int) - (a : Int) - (-1074 - (a : Int) + ((max (n.log2 - 52) a : Nat) : Int))).toNat = 0 by omega,
      show ((-1074 : Int) - (a : Int) + ((max (n.log2 - 52) a : Nat) : Int) - (-1074 - (a : Int))).toNat = max (n.log2 - 52) a by omega,
      show ((-1074 : Int) - (a : Int) + ((max (n.log2 - 52) a : Nat) : Int) - -1074).toNat = max (n.log2 - 52) a - a by omega]
    rw [Nat.shiftLeft_zero, cut_rhe]
    rfl

theorem near0 (neg : Bool) (n : Nat) : double.nearest neg n (-1074) = double.word neg (min (rn n) INF) := by
  have := near neg n 0
  rw [rna_zero] at this
  simpa using this

/-! ### Words -/
def sg (x : Nat) : Bool := x / 2 ^ 63 % 2 == 1
def rg (x : Nat) : Nat := x % 2 ^ 63
def sgd (s : Bool) (n : Nat) : Int := if s then -(n : Int) else n
def V (x : Nat) : Int := sgd (sg x) (vl (rg x))
def K (x : Nat) : Int := sgd (sg x) (rg x)

theorem read_fin {x : Nat} (h : rg x < INF) : double.read x = .number (sg x) (mg (rg x)) (-1074 + (ex (rg x) : Int)) := by
  have lp : double.leastPlace = -1074 := by decide
  have bi : double.binade = B := rfl
  have inf : double.infRung = INF := rfl
  have sw : double.signWeight = 2 ^ 63 := rfl
  unfold Format.read
  simp only [lp, bi, inf, sw]
  show (if rg x < B then Datum.number (sg x) (rg x) (-1074) else if rg x < INF then Datum.number (sg x) (B + rg x % B) (-1074 + ((rg x / B - 1 : Nat) : Int)) else if rg x = INF then Datum.infinity (sg x) else Datum.nan (sg x) (rg x - INF)) = _
  unfold mg ex
  by_cases hb : rg x < B
  · simp [hb]
  · simp [hb, h]

theorem read_inf {x : Nat} (h : rg x = INF) : double.read x = .infinity (sg x) := by
  have bi : double.binade = B := rfl
  have inf : double.infRung = INF := rfl
  have sw : double.signWeight = 2 ^ 63 := rfl
  unfold Format.read
  simp only [bi, inf, sw]
  show (if rg x < B then Datum.number (sg x) (rg x) _ else if rg x < INF then _ else if rg x = INF then Datum.infinity (sg x) else Datum.nan (sg x) (rg x - INF)) = _
  rw [if_neg (by rw [h]; decide), if_neg (by omega), if_pos h]

theorem isNaN_rg (x : Nat) : isNaN x = decide (INF < rg x) := by
  by_cases h1 : rg x < INF
  · unfold isNaN; rw [read_fin h1]; simp [Datum.isNaN]; omega
  · by_cases h2 : rg x = INF
    · unfold isNaN; rw [read_inf h2]; simp [Datum.isNaN]; omega
    · have bi : double.binade = B := rfl
      have inf : double.infRung = INF := rfl
      have sw : double.signWeight = 2 ^ 63 := rfl
      unfold isNaN Format.read
      simp only [bi, inf, sw]
      show Datum.isNaN (if rg x < B then Datum.number (sg x) (rg x) _ else if rg x < INF then _ else if rg x = INF then Datum.infinity (sg x) else Datum.nan (sg x) (rg x - INF)) = _
      have hB : B ≤ INF := by decide
      rw [if_neg (by omega), if_neg h1, if_neg h2]
      simp [Datum.isNaN]; omega

theorem signed_sgd (s : Bool) (m up : Nat) : signed s m up = sgd s (m * 2 ^ up) := by
  unfold signed sgd
  rw [Nat.shiftLeft_eq]

theorem sgd_mul (s : Bool) (n c : Nat) : sgd s (n * c) = sgd s n * (c : Int) := by
  unfold sgd
  cases s
  · simp
  · simp [Int.neg_mul]

theorem compare_mul (a b : Int) {c : Int} (hc : 0 < c) : compare (a * c) (b * c) = compare a b := by
  simp only [compare, compareOfLessAndEq]
  by_cases h1 : a < b
  · have : a * c < b * c := Int.mul_lt_mul_of_pos_right h1 hc
    simp [h1, this]
  · by_cases h2 : a = b
    · subst h2; simp
    · have h3 : b < a := by omega
      have h4 : b * c < a * c := Int.mul_lt_mul_of_pos_right h3 hc
      have h5 : ¬ a * c < b * c := by omega
      have h6 : ¬ a * c = b * c := by omega
      simp [h1, h2, h5, h6]

/-- How the value of a word is had from what it reads as. -/
theorem V_at {x : Nat} {base : Int} (hb : (-1074 : Int) ≤ base) (hx : base ≤ -1074 + (ex (rg x) : Int)) :
    V x = signed (sg x) (mg (rg x)) (-1074 + (ex (rg x) : Int) - base).toNat * ((2 ^ (base + 1074).toNat : Nat) : Int) := by
  rw [signed_sgd, ← sgd_mul]
  unfold V vl
  rw [Nat.mul_assoc, ← Nat.pow_add, show (-1074 + (ex (rg x) : Int) - base).toNat + (base + 1074).toNat = ex (rg x) by omega]

theorem order_fin {x y : Nat} (hx : rg x < INF) (hy : rg y < INF) : double.order x y = some (compare (V x) (V y)) := by
  unfold Format.order
  rw [read_fin hx, read_fin hy]
  simp only [Datum.order]
  generalize hb : min (-1074 + (ex (rg x) : Int)) (-1074 + (ex (rg y) : Int)) = base
  rw [V_at (x := x) (base := base) (by omega) (by omega), V_at (x := y) (base := base) (by omega) (by omega), compare_mul _ _ (by have := Nat.two_pow_pos (base + 1074).toNat; omega)]

theorem V_lt_iff (x y : Nat) : V x < V y ↔ K x < K y := by
  have h1 : ∀ a b, vl a < vl b ↔ a < b := fun a b => ⟨fun h => by
    refine Nat.lt_of_not_le fun hn => ?_
    have := vl_le hn; omega, vl_lt⟩
  have a := h1 (rg x) (rg y)
  have b := h1 (rg y) (rg x)
  have c := h1 0 (rg x)
  have d := h1 0 (rg y)
  rw [vl_zero] at c d
  unfold V K sgd
  cases sg x <;> cases sg y <;> simp <;> omega
theorem V_le_iff (x y : Nat) : V x ≤ V y ↔ K x ≤ K y := by
  have := V_lt_iff y x; omega
theorem V_eq_iff (x y : Nat) : V x = V y ↔ K x = K y := by
  have := V_lt_iff y x; have := V_lt_iff x y; omega

theorem order_lt {x y : Nat} (hx : rg x < INF) (hy : rg y < INF) : (double.order x y == some .lt) = decide (K x < K y) := by
  rw [order_fin hx hy]
  have := V_lt_iff x y
  simp only [compare, compareOfLessAndEq]
  by_cases h : V x < V y
  · simp [h, this.1 h]
  · have h' : ¬ K x < K y := fun h2 => h (this.2 h2)
    by_cases e : V x = V y <;> simp [h, h', e]
theorem order_gt {x y : Nat} (hx : rg x < INF) (hy : rg y < INF) : (double.order x y == some .gt) = decide (K y < K x) := by
  rw [order_fin hx hy]
  have := V_lt_iff x y
  have h2 := V_lt_iff y x
  simp only [compare, compareOfLessAndEq]
  by_cases h : V x < V y
  · have h' : ¬ K y < K x := by have := this.1 h; omega
    simp [h, h']
  · by_cases e : V x = V y
    · have h' : ¬ K y < K x := by intro h3; have := h2.2 h3; omega
      simp [h', e]
    · have h' : K y < K x := h2.1 (by omega)
      simp [h, h', e]
theorem order_eq {x y : Nat} (hx : rg x < INF) (hy : rg y < INF) : (double.order x y == some .eq) = decide (K x = K y) := by
  rw [order_fin hx hy]
  have h2 := V_eq_iff x y
  simp only [compare, compareOfLessAndEq]
  by_cases h : V x < V y
  · have h' : ¬ K x = K y := by intro h3; have := h2.2 h3; omega
    simp [h, h']
  · by_cases e : V x = V y
    · simp [e, h2.1 e]
    · have h' : ¬ K x = K y := fun h3 => e (h2.2 h3)
      simp [h, h', e]

theorem INF_lt : INF < 2 ^ 63 := by decide
theorem sg_word (neg : Bool) {r : Nat} (h : r < 2 ^ 63) : sg (double.word neg r) = neg := by
  have sw : double.signWeight = 2 ^ 63 := rfl
  unfold sg Format.word
  rw [sw]
  cases neg
  · simp; omega
  · simp; omega
theorem rg_word (neg : Bool) {r : Nat} (h : r < 2 ^ 63) : rg (double.word neg r) = r := by
  have sw : double.signWeight = 2 ^ 63 := rfl
  unfold rg Format.word
  rw [sw]
  cases neg
  · simp; omega
  · simp; omega
theorem K_word (neg : Bool) {r : Nat} (h : r < 2 ^ 63) : K (double.word neg r) = sgd neg r := by
  unfold K; rw [sg_word neg h, rg_word neg h]

/-! ### Sums and differences -/
theorem sum_of {s t : Bool} {m n : Nat} {i j : Int} (hi : (-1074 : Int) ≤ i) (hj : (-1074 : Int) ≤ j) {Vx Vy : Int}
    (hx : Vx = sgd s (m * 2 ^ (i + 1074).toNat)) (hy : Vy = sgd t (n * 2 ^ (j + 1074).toNat)) :
    ((Datum.number s m i).sum (.number t n j)).map double.write = some (double.word (if Vx + Vy = 0 then s && t else decide (Vx + Vy < 0)) (min (rn (Vx + Vy).natAbs) INF)) := by
  simp only [Datum.sum, Option.map_some, Option.some.injEq]
  generalize hb : min i j = base
  have e1 : Vx = signed s m (i - base).toNat * ((2 ^ (base + 1074).toNat : Nat) : Int) := by
    rw [signed_sgd, ← sgd_mul, Nat.mul_assoc, ← Nat.pow_add, show (i - base).toNat + (base + 1074).toNat = (i + 1074).toNat by omega]; exact hx
  have e2 : Vy = signed t n (j - base).toNat * ((2 ^ (base + 1074).toNat : Nat) : Int) := by
    rw [signed_sgd, ← sgd_mul, Nat.mul_assoc, ← Nat.pow_add, show (j - base).toNat + (base + 1074).toNat = (j + 1074).toNat by omega]; exact hy
  generalize signed s m (i - base).toNat = a at e1
  generalize signed t n (j - base).toNat = b at e2
  have hp : (0 : Int) < ((2 ^ (base + 1074).toNat : Nat) : Int) := by have := Nat.two_pow_pos (base + 1074).toNat; omega
  have e3 : Vx + Vy = (a + b) * ((2 ^ (base + 1074).toNat : Nat) : Int) := by rw [e1, e2, Int.add_mul]
  have hz : (Vx + Vy = 0) ↔ (a + b = 0) := by
    rw [e3]
    constructor
    · intro h; rcases Int.mul_eq_zero.1 h with h | h
      · exact h
      · omega
    · intro h; rw [h]; simp
  have hn : (Vx + Vy < 0) ↔ (a + b < 0) := by
    rw [e3]
    constructor
    · intro h
      refine Int.lt_of_not_ge fun hn => ?_
      have := Int.mul_nonneg hn (Int.le_of_lt hp)
      omega
    · intro h; exact Int.mul_neg_of_neg_of_pos h hp
  have hab : (Vx + Vy).natAbs = (a + b).natAbs * 2 ^ (base + 1074).toNat := by
    rw [e3, Int.natAbs_mul]; rfl
  have hs := nearest_scale double (if a + b = 0 then s && t else decide (a + b < 0)) (a + b).natAbs (base + 1074).toNat base
  show double.nearest _ _ _ = _
  rw [← hs, show base - ((base + 1074).toNat : Int) = -1074 by omega, near0, ← hab]
  simp only [hz, hn]

theorem add_fin {x y : Nat} (hx : rg x < INF) (hy : rg y < INF) :
    floatBits .add .f64 x y = some (double.word (if V x + V y = 0 then sg x && sg y else decide (V x + V y < 0)) (min (rn (V x + V y).natAbs) INF)) := by
  show ((double.read x).sum (double.read y)).map double.write = _
  rw [read_fin hx, read_fin hy]
  refine sum_of (by omega) (by omega) ?_ ?_
  · unfold V vl; rw [show (-1074 + (ex (rg x) : Int) + 1074).toNat = ex (rg x) by omega]
  · unfold V vl; rw [show (-1074 + (ex (rg y) : Int) + 1074).toNat = ex (rg y) by omega]

theorem sgd_not (s : Bool) (n : Nat) : sgd (!s) n = - sgd s n := by cases s <;> simp [sgd]

theorem sub_fin {x y : Nat} (hx : rg x < INF) (hy : rg y < INF) :
    floatBits .sub .f64 x y = some (double.word (if V x - V y = 0 then sg x && !sg y else decide (V x - V y < 0)) (min (rn (V x - V y).natAbs) INF)) := by
  show ((double.read x).sum (double.read y).opposite).map double.write = _
  rw [read_fin hx, read_fin hy]
  have := sum_of (s := sg x) (t := !sg y) (m := mg (rg x)) (n := mg (rg y)) (i := -1074 + (ex (rg x) : Int)) (j := -1074 + (ex (rg y) : Int)) (Vx := V x) (Vy := - V y) (by omega) (by omega)
    (by unfold V vl; rw [show (-1074 + (ex (rg x) : Int) + 1074).toNat = ex (rg x) by omega])
    (by unfold V vl; rw [show (-1074 + (ex (rg y) : Int) + 1074).toNat = ex (rg y) by omega, sgd_not])
  rw [show V x + - V y = V x - V y by omega] at this
  exact this

def dtwo : Nat := 4611686018427387904
theorem read_dtwo : double.read dtwo = .number false (2 ^ 52) (-51) := by decide

theorem half_fin {z : Nat} (hz : rg z < INF) : floatBits .quo .f64 z dtwo = some (double.word (sg z) (min (rna 1 (vl (rg z))) INF)) := by
  show ((double.read z).quotient 54 (double.read dtwo)).map double.write = _
  rw [read_fin hz, read_dtwo]
  have hm : mg (rg z) < 2 ^ 53 := mg_lt (rg z)
  generalize hi : (-1074 + (ex (rg z) : Int)) = i
  have hlog : (mg (rg z)).log2 ≤ 52 := by have := log2_lt_of hm (by omega); omega
  have l52 : (2 ^ 52 : Nat).log2 = 52 := by decide
  simp only [Datum.quotient, l52]
  rw [if_neg (by decide)]
  simp only [Option.map_some, Option.some.injEq]
  obtain ⟨c, hc⟩ : ∃ c, 54 + 52 - (mg (rg z)).log2 = c + 52 := ⟨54 + 52 - (mg (rg z)).log2 - 52, by omega⟩
  rw [hc]
  have e : mg (rg z) <<< (c + 52) = mg (rg z) * 2 ^ c * 2 ^ 52 := by rw [Nat.shiftLeft_eq, Nat.pow_add, Nat.mul_assoc]
  have q1 : mg (rg z) <<< (c + 52) / 2 ^ 52 = mg (rg z) * 2 ^ c := by rw [e]; exact Nat.mul_div_cancel _ (by decide)
  have q2 : (mg (rg z) <<< (c + 52) % 2 ^ 52 != 0) = false := by rw [e, Nat.mul_mod_left]; rfl
  rw [q1, q2]
  show double.nearest _ _ _ = _
  rw [show (sg z ^^ false) = sg z by simp]
  have n1 := nearest_scale double (sg z) (mg (rg z)) (c + 1) (i - 1)
  have n2 := nearest_scale double (sg z) (mg (rg z)) (ex (rg z)) (i - 1)
  have e1 : mg (rg z) * 2 ^ (c + 1) = 2 * (mg (rg z) * 2 ^ c) + (false : Bool).toNat := by rw [Nat.pow_succ]; simp; rw [← Nat.mul_assoc, Nat.mul_comm]
  rw [e1] at n1
  rw [show (i - 1 : Int) - ((c + 1 : Nat) : Int) = i - -51 - ((c + 52 : Nat) : Int) - 1 by omega] at n1
  rw [show (i - 1 : Int) - ((ex (rg z) : Nat) : Int) = -1074 - ((1 : Nat) : Int) by omega, near] at n2
  rw [n1, ← n2]
  rfl
end Go.Proofs.YbulkdsruGreatDoor
