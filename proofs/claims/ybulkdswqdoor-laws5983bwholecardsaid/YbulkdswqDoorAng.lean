import Derived.Test.YbulkdswqDoorModB
namespace Go.Proofs.YbulkdswqDoor
open Go.RowKit
set_option linter.unusedVariables false
set_option linter.unusedSimpArgs false

def PI : Nat := 4614256656552045848
def D180 : Nat := 4640537203540230144
def radF (acc : Nat) : Nat := fop .quo (fop .mul acc PI) D180
theorem cn_PI : cn 4614256656552045848 = PI := by decide
theorem cn_D180 : cn 4640537203540230144 = D180 := by decide
theorem cn_TP : cn TP = TP := by decide

/-- The reduced angle; none where the shapes that the walk wants are not there. -/
def wrapF (s : Bool) (res : Nat) : Option Nat :=
  bif s then (bif decide (0 < res) && decide (fop .add (Op.negFloat .f64 res) TP < TP) then some (fop .add (Op.negFloat .f64 res) TP) else none) else some res
def angF (n rad : Nat) : Option Nat :=
  bif decide (0 < rg rad) && decide (rg rad < INF) then (modF n (rg rad)).bind (wrapF (sg rad)) else none

theorem angF_parts {n rad v : Nat} (h : angF n rad = some v) : 0 < rg rad ∧ rg rad < INF ∧ ∃ res, modF n (rg rad) = some res ∧ wrapF (sg rad) res = some v := by
  unfold angF at h
  cases hc : (decide (0 < rg rad) && decide (rg rad < INF))
  · rw [hc] at h; cases h
  · rw [hc, cond_true] at h
    simp only [Bool.and_eq_true, decide_eq_true_eq] at hc
    obtain ⟨res, h1, h2⟩ := Option.bind_eq_some_iff.1 h
    exact ⟨hc.1, hc.2, res, h1, h2⟩

theorem neg_sg {r : Nat} (h : r < 2 ^ 63) : sg (Op.negFloat .f64 r) = true ∧ rg (Op.negFloat .f64 r) = r := by
  have e : Op.negFloat .f64 r = r ^^^ 2 ^ 63 := rfl
  have h1 : (r ^^^ 2 ^ 63) % 2 ^ 63 = r % 2 ^ 63 := by rw [Nat.xor_mod_two_pow]; simp
  have h2 : (r ^^^ 2 ^ 63) / 2 ^ 63 = (r / 2 ^ 63) ^^^ 1 := by rw [Nat.xor_div_two_pow]
  have h3 : r / 2 ^ 63 = 0 := by omega
  rw [h3] at h2
  have h4 : (r ^^^ 2 ^ 63) / 2 ^ 63 = 1 := h2
  rw [e]
  constructor
  · unfold sg; rw [h4]; rfl
  · unfold rg; omega

theorem pos_lt0 {r : Nat} (h : r < INF) : (FloatKind.f64.format.order r 0 == some .lt) = false := by
  have hI := INF_lt
  have r1 : rg r = r := Nat.mod_eq_of_lt (by omega)
  show (Ieee.double.order r 0 == some .lt) = false
  rw [order_lt (by rw [r1]; exact h) (by decide), K_nn (r := r) (by omega), K_nn (r := 0) (by decide)]
  simp
theorem neg_lt0 {r : Nat} (h0 : 0 < r) (h : r < INF) : (FloatKind.f64.format.order (Op.negFloat .f64 r) 0 == some .lt) = true := by
  have hI := INF_lt
  obtain ⟨a, b⟩ := neg_sg (r := r) (by omega)
  rw [lt0_test (by rw [b]; exact h) (by rw [b]; exact h0), a]
theorem eqTP {r : Nat} (h : r < TP) : (FloatKind.f64.format.order r TP == some .eq) = false := by
  have hI := INF_lt
  have hT : TP < INF := by decide
  have r1 : rg r = r := Nat.mod_eq_of_lt (by omega)
  show (Ieee.double.order r TP == some .eq) = false
  rw [order_eq (by rw [r1]; omega) (by decide), K_nn (r := r) (by omega), K_nn (r := TP) (by omega)]
  simp; omega
theorem neg_cn {r : Nat} (h : r < INF) : cn (Op.negFloat .f64 r) = Op.negFloat .f64 r := by
  have hI := INF_lt
  obtain ⟨a, b⟩ := neg_sg (r := r) (by omega)
  refine cn_not ?_
  rw [isNaN_rg, b]; simp; omega

theorem lss_test {r : Nat} (h : r < TP) : (FloatKind.f64.format.order r TP == some .lt) = true := by
  have hI := INF_lt
  have hT : TP < INF := by decide
  have r1 : rg r = r := Nat.mod_eq_of_lt (by omega)
  show (Ieee.double.order r TP == some .lt) = true
  rw [order_lt (by rw [r1]; omega) (by decide), K_nn (r := r) (by omega), K_nn (r := TP) (by omega)]
  simp; omega
theorem geq0 {r : Nat} (h : r < TP) : (FloatKind.f64.format.order r 0 == some .gt || FloatKind.f64.format.order r 0 == some .eq) = true := by
  have hI := INF_lt
  have hT : TP < INF := by decide
  have r1 : rg r = r := Nat.mod_eq_of_lt (by omega)
  show (Ieee.double.order r 0 == some .gt || Ieee.double.order r 0 == some .eq) = true
  rw [order_gt (by rw [r1]; omega) (by decide), order_eq (by rw [r1]; omega) (by decide), K_nn (r := r) (by omega), K_nn (r := 0) (by decide)]
  by_cases h0 : r = 0
  · simp [h0]
  · simp; omega

theorem angF_lt {n rad v : Nat} (h : angF n rad = some v) : v < TP := by
  obtain ⟨_, _, res, h1, h2⟩ := angF_parts h
  have hl := modF_lt _ _ _ h1
  unfold wrapF at h2
  cases hs : sg rad
  · rw [hs] at h2; cases h2; exact hl
  · rw [hs, cond_true] at h2
    cases hc : (decide (0 < res) && decide (fop .add (Op.negFloat .f64 res) TP < TP))
    · rw [hc] at h2; cases h2
    · rw [hc] at h2
      simp only [Bool.and_eq_true, decide_eq_true_eq] at hc
      cases h2
      exact hc.2

set_option maxHeartbeats 1000000 in
theorem in_any (v : Nat) (w : World) (h : v < TP) : Calls Ybad.prog 11 #[.float .f64 v] w fun e w' => e = .returned (.bool true) ∧ w' = w := by
  have t1 := geq0 h
  have t2 : (FloatKind.f64.format.order v 4618760256179416344 == some .lt) = true := lss_test h
  clear h
  go_enter Ybad.func11, Ybad.ntmps11
  go_wp2_with fail
  go_ret
  exact ⟨rfl, rfl⟩

set_option maxHeartbeats 1000000 in
theorem degrees_any (x : Nat) (w : World) : Calls Ybad.prog 23 #[.float .f64 x] w fun e w' => ∃ r k, e = .returned (.float .f64 r) ∧ cn r = radF (cn x) ∧ r < 2 ^ 64 ∧ w' = w.drewN k := by
  go_enter Ybad.func23, Ybad.ntmps23
  go_wp2_with fail
  refine upon_float (by simp) ?_
  intro r1 n1 s1
  go_wp2_with fail
  obtain ⟨r, n, hr, hc, hl⟩ := fl_run Ybad.prog .quo (by simp) 22 r1 4640537203540230144 (w.drewN n1)
  rw [hr]
  have HC : Hid (cn r = radF (cn x)) := by
    show cn r = _
    rw [hc, ← fop_cn, s1.out, cn_PI, cn_D180]; rfl
  have HL : Hid (r < 2 ^ 64) := hl
  clear hr hc hl s1
  go_wp2_with fail
  go_ret
  exact ⟨_, _, rfl, HC.out, HL.out, rfl⟩

theorem radF_raw {r v rad n : Nat} (h : cn r = rad) (ha : angF n rad = some v) : r = rad := by
  obtain ⟨_, h2, _⟩ := angF_parts ha
  refine raw_same h ?_
  rw [isNaN_rg]; simp; omega

set_option maxRecDepth 8000 in
set_option maxHeartbeats 1000000 in
theorem reduce_any (n rad v : Nat) (w : World) (hx : rad < 2 ^ 64) (ha : angF n rad = some v) : Calls Ybad.prog 24 #[.float .f64 rad] w fun e w' => ∃ k, e = .returned (.float .f64 v) ∧ w' = w.drewN k := by
  obtain ⟨h0, h1, res, hm, hw⟩ := angF_parts ha
  have hl := modF_lt _ _ _ hm
  have hT : TP < INF := by decide
  have HMOD : Hid (∀ w, Calls Ybad.prog 21 #[.float .f64 rad, .float .f64 4618760256179416344] w fun e w' => ∃ k, e = .returned (.float .f64 (sgn (sg rad) res)) ∧ w' = w.drewN k) := fun w => mod_any n rad _ res w rfl hx h0 h1 hm
  unfold wrapF at hw
  cases hs : sg rad
  · rw [hs, cond_false] at hw
    obtain rfl := Option.some.inj hw
    have t1 := pos_lt0 (r := res) (by omega)
    have e : sgn (sg rad) res = res := by rw [hs]; rfl
    rw [e] at HMOD
    clear hx ha h0 h1 hm hw hl hT hs e
    go_enter Ybad.func24, Ybad.ntmps24
    go_wp2_with fail
    go_at_call 21
    refine (HMOD.out _).mono ?_
    rintro e w' ⟨k, rfl, rfl⟩
    go_wp2_with fail
    go_ret
    exact ⟨_, rfl, rfl⟩
  · rw [hs, cond_true] at hw
    cases hc : (decide (0 < res) && decide (fop .add (Op.negFloat .f64 res) TP < TP))
    · rw [hc] at hw; cases hw
    · rw [hc, cond_true] at hw
      simp only [Bool.and_eq_true, decide_eq_true_eq] at hc
      obtain ⟨c0, c1⟩ := hc
      have hv := Option.some.inj hw
      have t1 := neg_lt0 c0 (show res < INF by omega)
      have e : sgn (sg rad) res = Op.negFloat .f64 res := by rw [hs]; rfl
      rw [e] at HMOD
      have NC : Hid _ := neg_cn (show res < INF by omega)
      generalize Op.negFloat .f64 res = z at *
      have HV : Hid (fop .add z TP = v) := hv
      have VT : Hid (v < TP) := by show v < TP; rw [← hv]; exact c1
      clear hx ha h0 h1 hm hw hl hT hs e c0 c1 hv
      go_enter Ybad.func24, Ybad.ntmps24
      go_wp2_with fail
      go_at_call 21
      refine (HMOD.out _).mono ?_
      rintro e w' ⟨k, rfl, rfl⟩
      go_wp2_with fail
      refine upon_float (by simp) ?_
      intro r1 n1 s1
      have E1 : r1 = v := by
        refine notnan ?_ (Nat.lt_trans VT.out (by decide))
        rw [s1.out, NC.out, ← HV.out]
        exact congrArg _ cn_TP
      subst E1
      have t2 : (FloatKind.f64.format.order r1 4618760256179416344 == some .eq) = false := eqTP VT.out
      clear s1
      go_wp2_with fail
      go_ret
      exact ⟨_, rfl, rfl⟩
end Go.Proofs.YbulkdswqDoor
