import Derived.Test.YbulkdsruGreatDoorBound1
import Derived.Laws.Cover2
namespace Go.Proofs.YbulkdsruGreatDoor
open Go.RowKit Ieee
set_option linter.unusedVariables false

def GIG : Nat := 4741671816366391296
def R63 : Nat := 4890909195324358656

theorem foi (n : Int) : floatOfInt .f64 n = double.word (decide (n < 0)) (min (rn (n.natAbs * 2 ^ 1074)) INF) := by
  show double.nearest (decide (n < 0)) n.natAbs 0 = _
  have h := nearest_scale double (decide (n < 0)) n.natAbs 1074 0
  rw [← h]
  have e : ((0 : Int) - ((1074 : Nat) : Int)) = -1074 := by omega
  rw [e, near0]
theorem foi_rg (n : Int) : rg (floatOfInt .f64 n) = min (rn (n.natAbs * 2 ^ 1074)) INF := by
  rw [foi, rg_word _ (by have := INF_lt; omega)]
theorem foi_le {n : Int} {N R : Nat} (h : n.natAbs ≤ N) (hR : rn (N * 2 ^ 1074) = R) : rg (floatOfInt .f64 n) ≤ R := by
  rw [foi_rg, ← hR]
  exact Nat.le_trans (Nat.min_le_left _ _) (rn_mono (Nat.mul_le_mul_right _ h))
theorem rn_gig : rn (1000000000 * 2 ^ 1074) = GIG := by decide +kernel
theorem rn_q : rn (9223372037 * 2 ^ 1074) = 4756133310154407936 := by decide +kernel

theorem abs_add_le {x y : Int} {a b : Nat} (hx : x.natAbs ≤ a) (hy : y.natAbs ≤ b) : (x + y).natAbs ≤ a + b := by omega
theorem V_abs (x : Nat) : (V x).natAbs = vl (rg x) := by unfold V sgd; cases sg x <;> simp

theorem add_le {x y X Y : Nat} (hx : rg x ≤ X) (hy : rg y ≤ Y) (hX : X < INF) (hY : Y < INF) (hS : rn (vl X + vl Y) < INF) : rg (fop .add x y) ≤ rn (vl X + vl Y) := by
  unfold fop
  rw [add_fin (by omega) (by omega)]
  simp only [Option.getD_some]
  have h : rn (V x + V y).natAbs ≤ rn (vl X + vl Y) := rn_mono (abs_add_le (by rw [V_abs]; exact vl_le hx) (by rw [V_abs]; exact vl_le hy))
  rw [rg_word _ (by have := INF_lt; omega)]
  exact Nat.le_trans (Nat.min_le_left _ _) h

theorem mul_le {x y X Y : Nat} (hx : rg x ≤ X) (hy : rg y ≤ Y) (hX : X < INF) (hY : Y < INF) : rg (fop .mul x y) ≤ rna 1074 (vl X * vl Y) := by
  unfold fop
  rw [mul_fin (by omega) (by omega)]
  simp only [Option.getD_some]
  rw [rg_word _ (by have := INF_lt; omega)]
  exact Nat.le_trans (Nat.min_le_left _ _) (rna_mono _ (Nat.mul_le_mul (vl_le hx) (vl_le hy)))

theorem ONE_lt : ONE < INF := by decide
theorem quo_gig {r : Int} (h : r.natAbs ≤ 1000000000) : rg (fop .quo (floatOfInt .f64 r) GIG) ≤ ONE := by
  have h1 := foi_le h rn_gig
  have hG : GIG < INF := by decide
  have hgg : rg GIG = GIG := by decide
  obtain ⟨s, t, e, hl⟩ := quo_le_one (x := floatOfInt .f64 r) (y := GIG) (by omega) (by omega) (by rw [hgg]; exact Nat.lt_of_lt_of_le (by decide +kernel : 0 < vl 1) (vl_le (by decide))) (by rw [hgg]; exact vl_le h1)
  unfold fop
  rw [e, Option.getD_some, rg_word _ (by have := INF_lt; have := ONE_lt; omega)]
  exact hl

/-- Seconds, as a word. -/
def secF (d : Int) : Nat := fop .add (floatOfInt .f64 (Int.tdiv d 1000000000)) (fop .quo (floatOfInt .f64 (Int.tmod d 1000000000)) GIG)
def SB : Nat := 4756133310154932224
theorem rn_sb : rn (vl 4756133310154407936 + vl ONE) = SB := by decide +kernel
theorem secF_le {d : Int} (h0 : -9223372036854775808 ≤ d) (h1 : d ≤ 9223372036854775807) : rg (secF d) ≤ SB := by
  have hm := Int.tmod_add_mul_tdiv d 1000000000
  have hb1 := Int.lt_tmod_of_pos d (show (0 : Int) < 1000000000 by omega)
  have hb2 := Int.tmod_lt_of_pos d (show (0 : Int) < 1000000000 by omega)
  have hq : (Int.tdiv d 1000000000).natAbs ≤ 9223372037 := by omega
  have hr : (Int.tmod d 1000000000).natAbs ≤ 1000000000 := by omega
  have a := foi_le hq rn_q
  have b := quo_gig hr
  rw [← rn_sb]
  exact add_le a b (by decide) (by decide) (by rw [rn_sb]; decide)

def fracF (a b : Nat) : Nat := fop .quo (floatOfInt .f64 a) (floatOfInt .f64 b)
theorem small_vl : ((List.range 256).all fun a => decide (vl (min (rn (a * 2 ^ 1074)) INF) = a * 2 ^ 1074)) = true := by decide +kernel
theorem foi_small {a : Nat} (h : a ≤ 255) : vl (rg (floatOfInt .f64 a)) = a * 2 ^ 1074 := by
  have h1 := of_decide_eq_true (List.all_eq_true.1 small_vl a (List.mem_range.2 (by omega)))
  rw [foi_rg, Int.natAbs_natCast]
  exact h1
theorem foi_fin {a : Nat} (h : a ≤ 255) : rg (floatOfInt .f64 a) < INF := by
  have h1 : rg (floatOfInt .f64 (a : Int)) ≤ GIG := foi_le (N := 1000000000) (by omega) rn_gig
  exact Nat.lt_of_le_of_lt h1 (by decide)
theorem frac_le {a b : Nat} (hb : b ≤ 255) (ha : a < b) : rg (fracF a b) ≤ W255 := by
  have e1 := foi_small (a := a) (by omega)
  have e2 := foi_small (a := b) hb
  have hp := Nat.two_pow_pos 1074
  obtain ⟨s, t, e, hl⟩ := quo_le_frac (x := floatOfInt .f64 a) (y := floatOfInt .f64 b) (foi_fin (by omega)) (foi_fin hb) (by rw [e2]; exact Nat.mul_pos (by omega) hp) (by
    rw [e1, e2, ← Nat.mul_assoc, ← Nat.mul_assoc]
    exact Nat.mul_le_mul_right _ (by omega))
  unfold fracF fop
  rw [e, Option.getD_some, rg_word _ (by have := INF_lt; have : W255 < INF := by decide
                                         omega)]
  exact hl

theorem rna_p1 : rna 1074 (vl W255 * vl SB) < 4756114420688998401 := by decide +kernel
theorem rna_p2 : rna 1074 (vl 4756114420688998401 * vl GIG) < R63 := by decide +kernel
theorem time_le {a b : Nat} {d : Int} (hb : b ≤ 255) (ha : a < b) (h0 : -9223372036854775808 ≤ d) (h1 : d ≤ 9223372036854775807) :
    rg (fop .mul (fop .mul (fracF a b) (secF d)) GIG) < R63 := by
  have p1 := mul_le (frac_le hb ha) (secF_le h0 h1) (by decide) (by decide)
  have p1' : rg (fop .mul (fracF a b) (secF d)) ≤ 4756114420688998401 := by have := rna_p1; omega
  have p2 := mul_le p1' (show rg GIG ≤ GIG by decide) (by decide) (by decide)
  have := rna_p2
  omega
end Go.Proofs.YbulkdsruGreatDoor
