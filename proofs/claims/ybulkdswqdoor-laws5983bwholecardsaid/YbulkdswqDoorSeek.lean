/- PLAIN: the bracketed search of 5983C, and that it ends. No Go in sight. -/
import Derived.Test.YbulkdswqDoorWord
namespace Go.Proofs.YbulkdswqDoor
open Ieee
open Go.RowKit (wrap64)
set_option linter.unusedVariables false

def MAXR : Nat := 9094988921128908188
def fits (x : Nat) : Prop := rg x ≤ MAXR
theorem fits.fin {x : Nat} (h : fits x) : rg x < INF := Nat.lt_of_le_of_lt h (by decide)

def dbl (r : Nat) : Nat := if r < B then 2 * r else r + B
theorem vl_dbl (r : Nat) : vl (dbl r) = 2 * vl r := by
  unfold dbl
  by_cases h : r < B
  · rw [if_pos h]
    have e1 : vl r = r := by simp [vl, mg, ex, h]
    rw [e1]
    by_cases h2 : 2 * r < B
    · simp [vl, mg, ex, h2]
    · have q : 2 * r / B = 1 := by
        have := B_pos
        exact Nat.div_eq_of_lt_le (by omega) (by omega)
      have q2 : 2 * r % B = 2 * r - B := by have := Nat.div_add_mod (2 * r) B; rw [q] at this; omega
      simp [vl, mg, ex, h2, q, q2]
      omega
  · rw [if_neg h]
    have h2 : ¬ r + B < B := by omega
    have q : (r + B) / B = r / B + 1 := Nat.add_div_right r B_pos
    have q2 : (r + B) % B = r % B := Nat.add_mod_right r B
    have hq : 1 ≤ r / B := (Nat.one_le_div_iff B_pos).2 (by omega)
    simp only [vl, mg, ex, if_neg h2, if_neg h, q, q2]
    rw [show r / B + 1 - 1 = r / B - 1 + 1 by omega, Nat.pow_succ, ← Nat.mul_assoc, Nat.mul_comm]

/-! ### Rounding of signed values -/
def Rz (v : Int) : Int := sgd (decide (v < 0)) (vl (rn v.natAbs))
def Rh (v : Int) : Int := sgd (decide (v < 0)) (rna 1 v.natAbs)
theorem rn_zero : rn 0 = 0 := by decide
theorem rna1_zero : rna 1 0 = 0 := by decide

theorem sgd_mono (f : Nat → Nat) (hf : ∀ a b, a ≤ b → f a ≤ f b) (h0 : f 0 = 0) {a b : Int} (h : a ≤ b) : sgd (decide (a < 0)) (f a.natAbs) ≤ sgd (decide (b < 0)) (f b.natAbs) := by
  by_cases ha : a < 0
  · by_cases hb : b < 0
    · have := hf b.natAbs a.natAbs (by omega)
      simp [sgd, ha, hb]; omega
    · simp [sgd, ha, hb] <;> omega
  · have hb : ¬ b < 0 := by omega
    have := hf a.natAbs b.natAbs (by omega)
    simp [sgd, ha, hb]; omega

theorem Rz_mono {a b : Int} (h : a ≤ b) : Rz a ≤ Rz b :=
  sgd_mono (fun n => vl (rn n)) (fun _ _ h => vl_le (rn_mono h)) (by show vl (rn 0) = 0; rw [rn_zero, vl_zero]) h
theorem Rh_mono {a b : Int} (h : a ≤ b) : Rh a ≤ Rh b :=
  sgd_mono (rna 1) (fun _ _ h => rna_mono 1 h) rna1_zero h

theorem vl_pos {r : Nat} (h : 0 < r) : 0 < vl r := by have := vl_lt h; rw [vl_zero] at this; exact this

theorem Rz_two (x : Nat) : Rz (2 * V x) = 2 * V x := by
  have e : rn (2 * vl (rg x)) = dbl (rg x) := by rw [← vl_dbl, rn_vl]
  unfold Rz V
  by_cases h0 : rg x = 0
  · rw [h0, vl_zero]; cases sg x <;> simp [sgd, rn_zero, vl_zero]
  · have hp := vl_pos (r := rg x) (by omega)
    cases hs : sg x
    · have h1 : ¬ (2 * sgd false (vl (rg x)) < 0) := by simp [sgd]; omega
      have h2 : (2 * sgd false (vl (rg x))).natAbs = 2 * vl (rg x) := by simp [sgd]; omega
      rw [h2, e, vl_dbl]
      simp [sgd]; omega
    · have h1 : (2 * sgd true (vl (rg x)) < 0) := by simp [sgd]; omega
      have h2 : (2 * sgd true (vl (rg x))).natAbs = 2 * vl (rg x) := by simp [sgd]; omega
      rw [h2, e, vl_dbl]
      simp only [decide_eq_true h1]
      simp [sgd]; omega

theorem Rh_two (x : Nat) : Rh (2 * V x) = K x := by
  have e : rna 1 (2 * vl (rg x)) = rg x := by
    have := rna_scale 1 (vl (rg x))
    rw [Nat.pow_one, Nat.mul_comm] at this
    rw [this, rn_vl]
  unfold Rh V K
  by_cases h0 : rg x = 0
  · rw [h0, vl_zero]; cases sg x <;> simp [sgd, rna1_zero]
  · have hp := vl_pos (r := rg x) (by omega)
    cases hs : sg x
    · have h1 : ¬ (2 * sgd false (vl (rg x)) < 0) := by simp [sgd]; omega
      have h2 : (2 * sgd false (vl (rg x))).natAbs = 2 * vl (rg x) := by simp [sgd]; omega
      rw [h2, e]
      simp [sgd]; omega
    · have h1 : (2 * sgd true (vl (rg x)) < 0) := by simp [sgd]; omega
      have h2 : (2 * sgd true (vl (rg x))).natAbs = 2 * vl (rg x) := by simp [sgd]; omega
      rw [h2, e]
      simp only [decide_eq_true h1]

/-! ### The middle -/
def mid (lo hi : Nat) : Nat := fop .quo (fop .add lo hi) dtwo

theorem sum_small {lo hi : Nat} (h1 : fits lo) (h2 : fits hi) : rn (V lo + V hi).natAbs ≤ dbl MAXR := by
  have a := vl_le h1
  have b := vl_le h2
  have : (V lo + V hi).natAbs ≤ vl (dbl MAXR) := by
    rw [vl_dbl]
    unfold V sgd
    cases sg lo <;> cases sg hi <;> simp <;> omega
  have := rn_mono this
  rwa [rn_vl] at this

theorem dbl_lt : dbl MAXR < INF := by decide

theorem add_V {lo hi : Nat} (h1 : fits lo) (h2 : fits hi) : rg (fop .add lo hi) < INF ∧ V (fop .add lo hi) = Rz (V lo + V hi) := by
  have hs := sum_small h1 h2
  have hd := dbl_lt
  have hI := INF_lt
  unfold fop
  rw [add_fin h1.fin h2.fin]
  simp only [Option.getD_some]
  rw [Nat.min_eq_left (by omega)]
  refine ⟨by rw [rg_word _ (by omega)]; omega, ?_⟩
  show sgd _ _ = _
  rw [rg_word _ (by omega), sg_word _ (by omega)]
  unfold Rz
  generalize V lo + V hi = v
  by_cases h0 : v = 0
  · subst h0; simp [rn_zero, vl_zero, sgd]
  · rw [if_neg h0]

theorem mid_K {lo hi : Nat} (h1 : fits lo) (h2 : fits hi) : rg (mid lo hi) < INF ∧ K (mid lo hi) = Rh (Rz (V lo + V hi)) := by
  obtain ⟨hf, hv⟩ := add_V h1 h2
  have hI := INF_lt
  rw [← hv]
  unfold mid
  generalize fop .add lo hi = z at hf
  unfold fop
  rw [half_fin hf]
  simp only [Option.getD_some]
  have hb : rna 1 (vl (rg z)) ≤ rg z := by
    have h := rna_mono 1 (show vl (rg z) ≤ vl (rg z) * 2 ^ 1 by omega)
    rwa [rna_scale, rn_vl] at h
  rw [Nat.min_eq_left (by omega)]
  refine ⟨by rw [rg_word _ (by omega)]; omega, ?_⟩
  rw [K_word _ (by omega)]
  unfold Rh V
  by_cases h0 : rg z = 0
  · rw [h0, vl_zero]; cases sg z <;> simp [sgd, rna1_zero]
  · have hp := vl_pos (r := rg z) (by omega)
    cases hs : sg z
    · have h1 : ¬ (sgd false (vl (rg z)) < 0) := by simp [sgd]
      have h2 : (sgd false (vl (rg z))).natAbs = vl (rg z) := by simp [sgd]
      rw [h2]; simp only [decide_eq_false h1]
    · have h1 : (sgd true (vl (rg z)) < 0) := by simp [sgd]; omega
      have h2 : (sgd true (vl (rg z))).natAbs = vl (rg z) := by simp [sgd]
      rw [h2]; simp only [decide_eq_true h1]

def btw (a m b : Int) : Prop := (a ≤ m ∧ m ≤ b) ∨ (b ≤ m ∧ m ≤ a)

theorem mid_btw {lo hi : Nat} (h1 : fits lo) (h2 : fits hi) : btw (K lo) (K (mid lo hi)) (K hi) := by
  rw [(mid_K h1 h2).2]
  have key : ∀ a b : Nat, V a ≤ V b → K a ≤ Rh (Rz (V a + V b)) ∧ Rh (Rz (V a + V b)) ≤ K b := by
    intro a b h
    have l := Rh_mono (Rz_mono (show 2 * V a ≤ V a + V b by omega))
    have r := Rh_mono (Rz_mono (show V a + V b ≤ 2 * V b by omega))
    rw [Rz_two, Rh_two] at l r
    exact ⟨l, r⟩
  by_cases h : V lo ≤ V hi
  · exact Or.inl (key lo hi h)
  · have := key hi lo (by omega)
    rw [Int.add_comm] at this
    exact Or.inr this

theorem K_abs (x : Nat) : (K x).natAbs = rg x := by unfold K sgd; cases sg x <;> simp
theorem fits_K {x : Nat} (h : -(MAXR : Int) ≤ K x) (h' : K x ≤ MAXR) : fits x := by
  have := K_abs x; unfold fits; omega
theorem K_fits {x : Nat} (h : fits x) : -(MAXR : Int) ≤ K x ∧ K x ≤ MAXR := by
  have := K_abs x; unfold fits at h; omega
theorem fits_btw {a m b : Nat} (h1 : fits a) (h2 : fits b) (h : btw (K a) (K m) (K b)) : fits m := by
  have := K_fits h1; have := K_fits h2
  refine fits_K ?_ ?_ <;> rcases h with h | h <;> omega

/-! ### The search -/
def gt0 (a : Nat) : Bool := double.order a 0 == some .gt
def leq (x y : Nat) : Bool := double.order x y == some .lt || double.order x y == some .eq
def absW (x : Nat) : Nat := x % 2 ^ 63
def tiny : Nat := 4487126258331716666
def stop (nx m : Nat) : Bool := double.order (absW (fop .sub nx m)) tiny == some .lt

/-- The new bracket's ends and the next estimate; A and R: the altitude's sine over h0, and its rate, at m. -/
def nlo (b0 : Bool) (A lo m : Nat) : Nat := bif gt0 A == b0 then m else lo
def nhi (b0 : Bool) (A hi m : Nat) : Nat := bif gt0 A == b0 then hi else m
def newton (A R m : Nat) : Nat := fop .sub m (fop .quo A R)
def ok (i : Int) (lo hi nw : Nat) : Bool := decide (i < 20) && (leq lo nw && leq nw hi)
def nextM (i : Int) (lo hi nw : Nat) : Nat := bif ok i lo hi nw then nw else mid lo hi

def seekF (alt : Nat → Nat × Nat) (b0 : Bool) : Nat → Int → Nat → Nat → Nat → Option Nat
  | 0, _, _, _, _ => none
  | n + 1, i, lo, hi, m =>
    let lo' := nlo b0 (alt m).1 lo m
    let hi' := nhi b0 (alt m).1 hi m
    let nx := nextM i lo' hi' (newton (alt m).1 (alt m).2 m)
    bif stop nx m then some nx else seekF alt b0 n (wrap64 (i + 1)) lo' hi' nx

theorem stop_same {x y : Nat} (hx : rg x < INF) (hy : rg y < INF) (h : K x = K y) : stop x y = true := by
  have hv : V x - V y = 0 := by have := (V_eq_iff x y).2 h; omega
  unfold stop fop
  rw [sub_fin hx hy, hv]
  simp only [Option.getD_some, if_pos]
  rw [show (0 : Int).natAbs = 0 from rfl, rn_zero, Nat.zero_min]
  have : ∀ b : Bool, double.order (absW (double.word b 0)) tiny = some .lt := by decide
  rw [this]; rfl

theorem leq_both {a x b : Nat} (ha : rg a < INF) (hb : rg b < INF) (h1 : leq a x = true) (h2 : leq x b = true) : rg x < INF ∧ K a ≤ K x ∧ K x ≤ K b := by
  by_cases hx : rg x < INF
  · unfold leq at h1 h2
    rw [order_lt ha hx, order_eq ha hx] at h1
    rw [order_lt hx hb, order_eq hx hb] at h2
    simp at h1 h2
    exact ⟨hx, by omega, by omega⟩
  · by_cases hi : rg x = INF
    · unfold leq Format.order at h1 h2
      rw [read_fin ha, read_inf hi] at h1
      rw [read_fin hb, read_inf hi] at h2
      cases hs : sg x <;> simp [Datum.order, hs] at h1 h2
    · have hn : isNaN x = true := by rw [isNaN_rg]; simp; omega
      obtain ⟨s, t, e⟩ := isNaN_iff hn
      unfold leq Format.order at h1
      rw [read_fin ha, e] at h1
      simp [Datum.order] at h1

theorem nextM_ok {i : Int} {lo hi nw : Nat} (h1 : fits lo) (h2 : fits hi) : btw (K lo) (K (nextM i lo hi nw)) (K hi) ∧ fits (nextM i lo hi nw) := by
  have hb : btw (K lo) (K (nextM i lo hi nw)) (K hi) := by
    unfold nextM
    cases h : ok i lo hi nw
    · exact mid_btw h1 h2
    · simp only [cond_true]
      unfold ok at h
      simp only [Bool.and_eq_true] at h
      obtain ⟨_, a, b⟩ := leq_both h1.fin h2.fin h.2.1 h.2.2
      exact Or.inl ⟨a, b⟩
  exact ⟨hb, fits_btw h1 h2 hb⟩

structure Inv (i : Int) (lo hi m : Nat) : Prop where
  flo : fits lo
  fhi : fits hi
  fm : fits m
  at_ : btw (K lo) (K m) (K hi)
  low : -9223372036854775808 ≤ i
  up : i ≤ 9223372036854775807
  bis : 21 ≤ i → m = mid lo hi

theorem Inv.next {i : Int} {lo hi m : Nat} (h : Inv i lo hi m) (b0 : Bool) (A nw : Nat) :
    Inv (wrap64 (i + 1)) (nlo b0 A lo m) (nhi b0 A hi m) (nextM i (nlo b0 A lo m) (nhi b0 A hi m) nw) := by
  have h1 : fits (nlo b0 A lo m) := by unfold nlo; cases gt0 A == b0; exact h.flo; exact h.fm
  have h2 : fits (nhi b0 A hi m) := by unfold nhi; cases gt0 A == b0; exact h.fm; exact h.fhi
  obtain ⟨hb, hf⟩ := nextM_ok (i := i) (nw := nw) h1 h2
  have hlo := h.low
  have hup := h.up
  refine ⟨h1, h2, hf, hb, by unfold wrap64; omega, by unfold wrap64; omega, fun h21 => ?_⟩
  have : 20 ≤ i := by unfold wrap64 at h21; omega
  unfold nextM ok
  rw [decide_eq_false (by omega)]
  rfl

def dist (lo hi : Nat) : Nat := (K hi - K lo).natAbs

theorem dist_le {i : Int} {lo hi m : Nat} (h : Inv i lo hi m) (b0 : Bool) (A : Nat) : dist (nlo b0 A lo m) (nhi b0 A hi m) ≤ dist lo hi := by
  have := h.at_
  unfold dist nlo nhi
  cases gt0 A == b0 <;> simp only [cond_true, cond_false] <;> rcases this with h | h <;> omega

theorem dist_lt {i : Int} {lo hi m : Nat} (h : Inv i lo hi m) (h21 : 21 ≤ i) (b0 : Bool) (A nw : Nat) (hs : stop (nextM i (nlo b0 A lo m) (nhi b0 A hi m) nw) m = false) :
    dist (nlo b0 A lo m) (nhi b0 A hi m) < dist lo hi := by
  have hm := h.bis h21
  have hat := h.at_
  have e : nextM i (nlo b0 A lo m) (nhi b0 A hi m) nw = mid (nlo b0 A lo m) (nhi b0 A hi m) := by
    unfold nextM ok
    rw [decide_eq_false (by omega)]
    rfl
  rw [e] at hs
  have h1 : fits (nlo b0 A lo m) := by unfold nlo; cases gt0 A == b0; exact h.flo; exact h.fm
  have h2 : fits (nhi b0 A hi m) := by unfold nhi; cases gt0 A == b0; exact h.fm; exact h.fhi
  have hne : K (mid (nlo b0 A lo m) (nhi b0 A hi m)) ≠ K m := by
    intro hk
    rw [stop_same (mid_K h1 h2).1 h.fm.fin hk] at hs
    cases hs
  have hKm : K m = Rh (Rz (V lo + V hi)) := by rw [hm]; exact (mid_K h.flo h.fhi).2
  have hb := mid_btw h1 h2
  have hk2 := (mid_K h1 h2).2
  -- the middle of the new bracket is not m: so m is no end of the old one
  unfold nlo nhi at hne hb hk2
  unfold dist nlo nhi
  cases hc : gt0 A == b0
  · rw [hc] at hne hb hk2
    simp only [cond_false] at hne hb hk2 ⊢
    have n1 : K m ≠ K lo := by
      intro hk
      rw [← hk] at hb
      exact hne (by rcases hb with h | h <;> omega)
    have n2 : K m ≠ K hi := by
      intro hk
      have hv : V m = V hi := (V_eq_iff m hi).2 hk
      rw [hv, ← hKm] at hk2
      exact hne hk2
    rcases hat with h | h <;> omega
  · rw [hc] at hne hb hk2
    simp only [cond_true] at hne hb hk2 ⊢
    have n1 : K m ≠ K hi := by
      intro hk
      rw [← hk] at hb
      exact hne (by rcases hb with h | h <;> omega)
    have n2 : K m ≠ K lo := by
      intro hk
      have hv : V m = V lo := (V_eq_iff m lo).2 hk
      rw [hv, ← hKm] at hk2
      exact hne hk2
    rcases hat with h | h <;> omega

theorem seek_ends (alt : Nat → Nat × Nat) (b0 : Bool) : ∀ (D c : Nat) (i : Int) (lo hi m : Nat), Inv i lo hi m → dist lo hi ≤ D → (21 - i).toNat ≤ c → ∃ n r, seekF alt b0 n i lo hi m = some r := by
  intro D
  induction D with
  | zero =>
    intro c
    induction c with
    | zero =>
      intro i lo hi m h hd hc
      have h21 : 21 ≤ i := by omega
      refine ⟨1, nextM i (nlo b0 (alt m).1 lo m) (nhi b0 (alt m).1 hi m) (newton (alt m).1 (alt m).2 m), ?_⟩
      have hs : stop (nextM i (nlo b0 (alt m).1 lo m) (nhi b0 (alt m).1 hi m) (newton (alt m).1 (alt m).2 m)) m = true := by
        cases hs : stop (nextM i (nlo b0 (alt m).1 lo m) (nhi b0 (alt m).1 hi m) (newton (alt m).1 (alt m).2 m)) m
        · have := dist_lt h h21 b0 _ _ hs; omega
        · rfl
      simp only [seekF, hs, cond_true]
    | succ c ih =>
      intro i lo hi m h hd hc
      cases hs : stop (nextM i (nlo b0 (alt m).1 lo m) (nhi b0 (alt m).1 hi m) (newton (alt m).1 (alt m).2 m)) m
      · by_cases h21 : 21 ≤ i
        · have := dist_lt h h21 b0 _ _ hs; omega
        · have hl := h.low
          obtain ⟨n, r, e⟩ := ih _ _ _ _ (h.next b0 (alt m).1 (newton (alt m).1 (alt m).2 m)) (Nat.le_trans (dist_le h b0 _) hd) (by unfold wrap64; omega)
          exact ⟨n + 1, r, by simp only [seekF, hs, cond_false]; exact e⟩
      · exact ⟨1, nextM i (nlo b0 (alt m).1 lo m) (nhi b0 (alt m).1 hi m) (newton (alt m).1 (alt m).2 m), by simp only [seekF, hs, cond_true]⟩
  | succ D ihD =>
    intro c
    induction c with
    | zero =>
      intro i lo hi m h hd hc
      have h21 : 21 ≤ i := by omega
      cases hs : stop (nextM i (nlo b0 (alt m).1 lo m) (nhi b0 (alt m).1 hi m) (newton (alt m).1 (alt m).2 m)) m
      · have hlt := dist_lt h h21 b0 _ _ hs
        obtain ⟨n, r, e⟩ := ihD _ _ _ _ _ (h.next b0 (alt m).1 (newton (alt m).1 (alt m).2 m)) (Nat.le_of_lt_succ (Nat.lt_of_lt_of_le hlt hd)) (Nat.le_refl _)
        exact ⟨n + 1, r, by simp only [seekF, hs, cond_false]; exact e⟩
      · exact ⟨1, nextM i (nlo b0 (alt m).1 lo m) (nhi b0 (alt m).1 hi m) (newton (alt m).1 (alt m).2 m), by simp only [seekF, hs, cond_true]⟩
    | succ c ih =>
      intro i lo hi m h hd hc
      cases hs : stop (nextM i (nlo b0 (alt m).1 lo m) (nhi b0 (alt m).1 hi m) (newton (alt m).1 (alt m).2 m)) m
      · by_cases h21 : 21 ≤ i
        · have hlt := dist_lt h h21 b0 _ _ hs
          obtain ⟨n, r, e⟩ := ihD _ _ _ _ _ (h.next b0 (alt m).1 (newton (alt m).1 (alt m).2 m)) (Nat.le_of_lt_succ (Nat.lt_of_lt_of_le hlt hd)) (Nat.le_refl _)
          exact ⟨n + 1, r, by simp only [seekF, hs, cond_false]; exact e⟩
        · have hl := h.low
          obtain ⟨n, r, e⟩ := ih _ _ _ _ (h.next b0 (alt m).1 (newton (alt m).1 (alt m).2 m)) (Nat.le_trans (dist_le h b0 _) hd) (by unfold wrap64; omega)
          exact ⟨n + 1, r, by simp only [seekF, hs, cond_false]; exact e⟩
      · exact ⟨1, nextM i (nlo b0 (alt m).1 lo m) (nhi b0 (alt m).1 hi m) (newton (alt m).1 (alt m).2 m), by simp only [seekF, hs, cond_true]⟩
end Go.Proofs.YbulkdswqDoor
