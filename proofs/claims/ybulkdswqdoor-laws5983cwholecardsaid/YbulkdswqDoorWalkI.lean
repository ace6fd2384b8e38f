import Derived.Test.YbulkdswqDoorWalkH
namespace Go.Proofs.YbulkdswqDoor
open Go.RowKit Go.Op
set_option linter.unusedVariables false
set_option linter.unusedSimpArgs false

theorem order_nan_l {x y : Nat} (h : isNaN x = true) : Ieee.double.order x y = none := by
  obtain ⟨s, t, e⟩ := isNaN_iff h
  unfold Ieee.Format.order; rw [e]; simp [Ieee.Datum.order]
theorem order_nan_r {x y : Nat} (h : isNaN y = true) : Ieee.double.order x y = none := by
  obtain ⟨s, t, e⟩ := isNaN_iff h
  unfold Ieee.Format.order; rw [e]; cases Ieee.double.read x <;> simp [Ieee.Datum.order]
theorem order_cn (x y : Nat) : Ieee.double.order x y = Ieee.double.order (cn x) (cn y) := by
  by_cases hx : isNaN x = true
  · rw [order_nan_l hx, order_nan_l (by rw [cn_isNaN]; exact hx)]
  · by_cases hy : isNaN y = true
    · rw [order_nan_r hy, order_nan_r (by rw [cn_isNaN]; exact hy)]
    · rw [cn_not (x := x) (by simpa using hx), cn_not (x := y) (by simpa using hy)]

theorem gt0_raw {x A : Nat} (h : cn x = A) : (FloatKind.f64.format.order x 0 == some .gt) = gt0 A := by
  show (Ieee.double.order x 0 == some .gt) = _
  rw [order_cn, h]; rfl
theorem leq_raw {x y X Y : Nat} (h : cn x = X) (h' : cn y = Y) : (FloatKind.f64.format.order x y == some .lt || FloatKind.f64.format.order x y == some .eq) = leq X Y := by
  show (Ieee.double.order x y == some .lt || Ieee.double.order x y == some .eq) = _
  rw [order_cn, h, h']; rfl
theorem rgnan {x : Nat} (h : isNaN x = true) : isNaN (absW x) = true := by
  rw [isNaN_rg] at h ⊢
  rw [absW_rg, rg_rg]; exact h
theorem stop_raw {r nx m : Nat} (h : cn r = fop .sub nx m) : (FloatKind.f64.format.order (absW r) 4487126258331716666 == some .lt) = stop nx m := by
  show (Ieee.double.order (absW r) tiny == some .lt) = _
  unfold stop
  rw [← h]
  by_cases hr : isNaN r = true
  · rw [order_nan_l (rgnan hr), order_nan_l (rgnan (by rw [cn_isNaN]; exact hr))]
  · rw [cn_not (x := r) (by simpa using hr)]

theorem mid_raw {a b c d lo hi : Nat} (ha : cn a = lo) (hb : cn b = hi) (h1 : cn c = fop .add (cn a) (cn b)) (h2 : cn d = fop .quo (cn c) (cn 4611686018427387904)) : cn d = mid lo hi := by
  rw [h2, h1, ha, hb, cn_two]; rfl

set_option maxRecDepth 8000 in
set_option maxHeartbeats 4000000 in
theorem seek_any {sc : Nat → Nat × Nat} (hsc : Sc sc) (x0 x1 x2 x3 x4 x5 x6 x7 x8 x9 x10 x11 x12 : Nat) (b0 : Bool) : ∀ (n : Nat) (i : Int) (lo hi m res : Nat) (w : World), Tabs w → 5 ≤ w.heap.size → -9223372036854775808 ≤ i → i ≤ 9223372036854775807 →
    seekF (altF sc (G x0 x1 x2 x3 x4 x5 x6 x7 x8 x9 x10 x11 x12)) b0 n i (cn lo) (cn hi) (cn m) = some res →
    Calls Ybad.prog 15 #[.agg #[.float .f64 x0, .float .f64 x1, .float .f64 x2, .float .f64 x3, .float .f64 x4, .float .f64 x5, .float .f64 x6, .float .f64 x7, .float .f64 x8, .float .f64 x9, .float .f64 x10, .float .f64 x11, .float .f64 x12], .bool b0, .float .f64 lo, .float .f64 hi, .float .f64 m, .int .i64 i] w
      fun e w' => ∃ r, e = .returned (.float .f64 r) ∧ cn r = res ∧ Below w.heap.size w w' := by
  intro n
  induction n with
  | zero => intro i lo hi m res w _ _ _ _ h; cases h
  | succ n ih =>
    intro i lo hi m res w hT h5 hi1 hi2 hres
    have IH : Hid (∀ (i : Int) (lo hi m res : Nat) (w : World), Tabs w → 5 ≤ w.heap.size → -9223372036854775808 ≤ i → i ≤ 9223372036854775807 →
      seekF (altF sc (G x0 x1 x2 x3 x4 x5 x6 x7 x8 x9 x10 x11 x12)) b0 n i (cn lo) (cn hi) (cn m) = some res →
      Calls Ybad.prog 15 #[.agg #[.float .f64 x0, .float .f64 x1, .float .f64 x2, .float .f64 x3, .float .f64 x4, .float .f64 x5, .float .f64 x6, .float .f64 x7, .float .f64 x8, .float .f64 x9, .float .f64 x10, .float .f64 x11, .float .f64 x12], .bool b0, .float .f64 lo, .float .f64 hi, .float .f64 m, .int .i64 i] w
      fun e w' => ∃ r, e = .returned (.float .f64 r) ∧ cn r = res ∧ Below w.heap.size w w') := ih
    have H5 : Hid (5 ≤ w.heap.size) := h5
    have HT : Hid (Tabs (w.alloc (.cells #[.float .f64 x0, .float .f64 x1, .float .f64 x2, .float .f64 x3, .float .f64 x4, .float .f64 x5, .float .f64 x6, .float .f64 x7, .float .f64 x8, .float .f64 x9, .float .f64 x10, .float .f64 x11, .float .f64 x12] 38))) := hT.below ((Below.refl _ _).alloc (Nat.le_refl _) _) h5
    have HB : Hid (Below w.heap.size w (w.alloc (.cells #[.float .f64 x0, .float .f64 x1, .float .f64 x2, .float .f64 x3, .float .f64 x4, .float .f64 x5, .float .f64 x6, .float .f64 x7, .float .f64 x8, .float .f64 x9, .float .f64 x10, .float .f64 x11, .float .f64 x12] 38))) := (Below.refl _ _).alloc (Nat.le_refl _) _
    unfold seekF at hres
    generalize hal : altF sc (G x0 x1 x2 x3 x4 x5 x6 x7 x8 x9 x10 x11 x12) (cn m) = AR at hres
    obtain ⟨A, R⟩ := AR
    simp only [] at hres
    have HRES : Hid _ := hres
    have HAL : Hid _ := hal
    clear ih hT h5 hres hal
    go_enter Ybad.func15, Ybad.ntmps15
    go_wp2_with fail
    go_at_call 14
    refine (calt_any hsc _ _ _ _ _ _ _ _ _ _ _ _ _ _ _ HT.out (by have := H5.out; simp; omega)).mono ?_
    rintro e w1 ⟨a, b, rfl, ca, cb, hbel⟩
    rw [HAL.out] at ca cb
    have T1 : (FloatKind.f64.format.order a 0 == some .gt) = gt0 A := gt0_raw ca
    have HCA : Hid (cn a = A) := ca
    have HCB : Hid (cn b = R) := cb
    have HB1 : Hid (Below (w.heap.size + 1) (w.alloc (.cells #[.float .f64 x0, .float .f64 x1, .float .f64 x2, .float .f64 x3, .float .f64 x4, .float .f64 x5, .float .f64 x6, .float .f64 x7, .float .f64 x8, .float .f64 x9, .float .f64 x10, .float .f64 x11, .float .f64 x12] 38)) w1) := hbel.mono (by simp)
    clear ca cb hbel
    go_upto_if 30 with fail
    go_cut [15, 16] (fun p q wc => ∃ l h, p = .float .f64 l ∧ q = .float .f64 h ∧ cn l = nlo b0 A (cn lo) (cn m) ∧ cn h = nhi b0 A (cn hi) (cn m) ∧ wc = w1)
    case first =>
      cases hg : (gt0 A == b0)
      · have HG : Hid ((gt0 A == b0) = false) := hg
        clear hg
        go_wp2_with fail
        go_meet
        case rel => exact ⟨_, _, rfl, rfl, by unfold nlo; rw [HG.out]; rfl, by unfold nhi; rw [HG.out]; rfl, rfl⟩
      · have HG : Hid ((gt0 A == b0) = true) := hg
        clear hg
        go_wp2_with fail
        go_meet
        case rel => exact ⟨_, _, rfl, rfl, by unfold nlo; rw [HG.out]; rfl, by unfold nhi; rw [HG.out]; rfl, rfl⟩
    case rest =>
      obtain ⟨l, h, rfl, rfl, cl, ch, hw⟩ := hcut
      obtain rfl : w1 = wc := hw.symm
      clear hw
      have HL : Hid _ := cl
      have HH : Hid _ := ch
      clear cl ch T1
      go_wp2_with fail
      refine upon_float (by simp) ?_
      intro r1 n1 s1
      go_wp2_with fail
      refine upon_float (by simp) ?_
      intro r2 n2 s2
      go_wp2_with fail
      refine upon_float (by simp) ?_
      intro r3 n3 s3
      go_wp2_with fail
      refine upon_float (by simp) ?_
      intro r4 n4 s4
      have HNW : Hid (cn r2 = newton A R (cn m)) := by show cn r2 = _; rw [s2.out, s1.out, HCA.out, HCB.out]; rfl
      have HMD : Hid (cn r4 = mid (nlo b0 A (cn lo) (cn m)) (nhi b0 A (cn hi) (cn m))) := mid_raw HL.out HH.out s3.out s4.out
      have T1 : (FloatKind.f64.format.order l r2 == some .lt || FloatKind.f64.format.order l r2 == some .eq) = _ := leq_raw HL.out HNW.out
      have T2 : (FloatKind.f64.format.order r2 h == some .lt || FloatKind.f64.format.order r2 h == some .eq) = _ := leq_raw HNW.out HH.out
      clear s1 s2 s3 s4
      go_upto_region 8 with fail
      go_cut [53] (fun p wc => p = .bool (ok i (nlo b0 A (cn lo) (cn m)) (nhi b0 A (cn hi) (cn m)) (newton A R (cn m))) ∧ wc = w1.drewN (n1 + n2 + n3 + n4))
      case first =>
        by_cases h20 : i < 20
        · cases e1 : leq (nlo b0 A (cn lo) (cn m)) (newton A R (cn m))
          · rw [e1] at T1
            have E1 : Hid _ := e1
            clear e1 T2
            go_wp2_with fail
            go_meet
            case rel => exact ⟨by unfold ok; rw [E1.out]; simp, rfl⟩
          · rw [e1] at T1
            have E1 : Hid _ := e1
            clear e1
            cases e2 : leq (newton A R (cn m)) (nhi b0 A (cn hi) (cn m))
            · rw [e2] at T2
              have E2 : Hid _ := e2
              clear e2
              go_wp2_with fail
              go_meet
              case rel => exact ⟨by unfold ok; rw [E1.out, E2.out]; simp, rfl⟩
            · rw [e2] at T2
              have E2 : Hid _ := e2
              clear e2
              go_wp2_with fail
              go_meet
              case rel => exact ⟨by unfold ok; rw [E1.out, E2.out, decide_eq_true h20]; simp, rfl⟩
        · go_wp2_with fail
          go_meet
          case rel => exact ⟨by unfold ok; rw [decide_eq_false (by omega)]; simp, rfl⟩
      case rest =>
        obtain ⟨rfl, rfl⟩ := hcut
        clear T1 T2
        go_upto_if 53 with fail
        go_cut [18] (fun p wc => ∃ z, p = .float .f64 z ∧ cn z = nextM i (nlo b0 A (cn lo) (cn m)) (nhi b0 A (cn hi) (cn m)) (newton A R (cn m)) ∧ wc = w1.drewN (n1 + n2 + n3 + n4))
        case first =>
          cases ho : ok i (nlo b0 A (cn lo) (cn m)) (nhi b0 A (cn hi) (cn m)) (newton A R (cn m))
          · have HO : Hid _ := ho
            clear ho
            go_wp2_with fail
            go_meet
            case rel => exact ⟨_, rfl, by unfold nextM; rw [HO.out]; exact HMD.out, rfl⟩
          · have HO : Hid _ := ho
            clear ho
            go_wp2_with fail
            go_meet
            case rel => exact ⟨_, rfl, by unfold nextM; rw [HO.out]; exact HNW.out, rfl⟩
        case rest =>
          obtain ⟨z, rfl, cz, rfl⟩ := hcut
          have HZ : Hid _ := cz
          clear cz
          go_wp2_with fail
          refine upon_float64 (by simp) ?_
          intro r5 n5 s5 l5
          have T3 : (FloatKind.f64.format.order (absW r5) 4487126258331716666 == some .lt) = stop (nextM i (nlo b0 A (cn lo) (cn m)) (nhi b0 A (cn hi) (cn m)) (newton A R (cn m))) (cn m) := stop_raw (by rw [s5.out, HZ.out])
          clear s5
          go_wp2_with fail
          go_at_call 12
          refine (abs_any _ _ l5.out).mono ?_
          rintro e w' ⟨rfl, hw⟩
          rw [hw]
          clear hw
          cases hst : stop (nextM i (nlo b0 A (cn lo) (cn m)) (nhi b0 A (cn hi) (cn m)) (newton A R (cn m))) (cn m)
          · have HST : Hid _ := hst
            rw [hst] at T3
            clear hst
            have q0 : w1.cell? ⟨w.heap.size, 0, none⟩ = some (.float .f64 x0) := (HB1.out.cell (p := ⟨w.heap.size, 0, none⟩) (by simp)).trans (by simp [go_sem])
            have q1 : w1.cell? ⟨w.heap.size, 1, none⟩ = some (.float .f64 x1) := (HB1.out.cell (p := ⟨w.heap.size, 1, none⟩) (by simp)).trans (by simp [go_sem])
            have q2 : w1.cell? ⟨w.heap.size, 2, none⟩ = some (.float .f64 x2) := (HB1.out.cell (p := ⟨w.heap.size, 2, none⟩) (by simp)).trans (by simp [go_sem])
            have q3 : w1.cell? ⟨w.heap.size, 3, none⟩ = some (.float .f64 x3) := (HB1.out.cell (p := ⟨w.heap.size, 3, none⟩) (by simp)).trans (by simp [go_sem])
            have q4 : w1.cell? ⟨w.heap.size, 4, none⟩ = some (.float .f64 x4) := (HB1.out.cell (p := ⟨w.heap.size, 4, none⟩) (by simp)).trans (by simp [go_sem])
            have q5 : w1.cell? ⟨w.heap.size, 5, none⟩ = some (.float .f64 x5) := (HB1.out.cell (p := ⟨w.heap.size, 5, none⟩) (by simp)).trans (by simp [go_sem])
            have q6 : w1.cell? ⟨w.heap.size, 6, none⟩ = some (.float .f64 x6) := (HB1.out.cell (p := ⟨w.heap.size, 6, none⟩) (by simp)).trans (by simp [go_sem])
            have q7 : w1.cell? ⟨w.heap.size, 7, none⟩ = some (.float .f64 x7) := (HB1.out.cell (p := ⟨w.heap.size, 7, none⟩) (by simp)).trans (by simp [go_sem])
            have q8 : w1.cell? ⟨w.heap.size, 8, none⟩ = some (.float .f64 x8) := (HB1.out.cell (p := ⟨w.heap.size, 8, none⟩) (by simp)).trans (by simp [go_sem])
            have q9 : w1.cell? ⟨w.heap.size, 9, none⟩ = some (.float .f64 x9) := (HB1.out.cell (p := ⟨w.heap.size, 9, none⟩) (by simp)).trans (by simp [go_sem])
            have q10 : w1.cell? ⟨w.heap.size, 10, none⟩ = some (.float .f64 x10) := (HB1.out.cell (p := ⟨w.heap.size, 10, none⟩) (by simp)).trans (by simp [go_sem])
            have q11 : w1.cell? ⟨w.heap.size, 11, none⟩ = some (.float .f64 x11) := (HB1.out.cell (p := ⟨w.heap.size, 11, none⟩) (by simp)).trans (by simp [go_sem])
            have q12 : w1.cell? ⟨w.heap.size, 12, none⟩ = some (.float .f64 x12) := (HB1.out.cell (p := ⟨w.heap.size, 12, none⟩) (by simp)).trans (by simp [go_sem])
            go_wp2_with fail
            go_at_call 15
            refine (IH.out (wrap64 (i + 1)) l h z res _ ((HT.out.below HB1.out (by have := H5.out; omega)).below (below_drewN (Below.refl 5 _) _) (by omega)) ?_ (by unfold wrap64; omega) (by unfold wrap64; omega) ?_).mono ?_
            · have h1 := HB1.out.size
              have h2 := H5.out
              simp at h1 ⊢
              omega
            · have h1 := HRES.out
              rw [HST.out, cond_false] at h1
              rw [HL.out, HH.out, HZ.out]
              exact h1
            · rintro e w' ⟨r, rfl, cr, hbr⟩
              have HR : Hid _ := cr
              have HBR : Hid (Below w.heap.size w w') := (HB.out.trans (HB1.out.mono (by omega))).trans ((below_drewN (Below.refl _ _) _).trans (hbr.mono (by have h1 := HB1.out.size; simp at h1 ⊢; omega)))
              clear cr hbr
              go_wp2_with fail
              go_ret
              exact ⟨_, rfl, HR.out, HBR.out⟩
          · have HST : Hid _ := hst
            rw [hst] at T3
            clear hst
            go_wp2_with fail
            go_ret
            refine ⟨_, rfl, ?_, below_drewN (HB.out.trans (HB1.out.mono (by omega))) _⟩
            have h1 := HRES.out
            rw [HST.out, cond_true] at h1
            rw [HZ.out]
            exact Option.some.inj h1
end Go.Proofs.YbulkdswqDoor
