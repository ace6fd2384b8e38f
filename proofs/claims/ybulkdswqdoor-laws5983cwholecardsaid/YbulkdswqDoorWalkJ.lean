import Derived.Test.YbulkdswqDoorWalkI
import Derived.Deep.LoopGhost
namespace Go.Proofs.YbulkdswqDoor
open Go.RowKit Go.Op
set_option linter.unusedVariables false
set_option linter.unusedSimpArgs false

def less (x y : Nat) : Bool := Ieee.double.order x y == some .lt
theorem lt_raw {x y X Y : Nat} (h : cn x = X) (h' : cn y = Y) : (FloatKind.f64.format.order x y == some .lt) = less X Y := by
  show (Ieee.double.order x y == some .lt) = _
  rw [order_cn, h, h']; rfl
def startM (lo hi m : Nat) : Nat := bif less lo m && less m hi then m else mid lo hi

set_option maxRecDepth 8000 in
set_option maxHeartbeats 8000000 in
theorem crossing_any {sc : Nat → Nat × Nat} (hsc : Sc sc) (x0 x1 x2 x3 x4 x5 x6 x7 x8 x9 x10 x11 x12 : Nat) (n lo hi m res : Nat) (w : World) (hT : Tabs w) (h5 : 5 ≤ w.heap.size)
    (hres : seekF (altF sc (G x0 x1 x2 x3 x4 x5 x6 x7 x8 x9 x10 x11 x12)) (gt0 (altF sc (G x0 x1 x2 x3 x4 x5 x6 x7 x8 x9 x10 x11 x12) (cn lo)).1) n 0 (cn lo) (cn hi) (startM (cn lo) (cn hi) (cn m)) = some res) :
    Calls Ybad.prog 13 #[.agg #[.float .f64 x0, .float .f64 x1, .float .f64 x2, .float .f64 x3, .float .f64 x4, .float .f64 x5, .float .f64 x6, .float .f64 x7, .float .f64 x8, .float .f64 x9, .float .f64 x10, .float .f64 x11, .float .f64 x12], .float .f64 lo, .float .f64 hi, .float .f64 m] w
      fun e w' => ∃ r, e = .returned (.float .f64 r) ∧ cn r = res ∧ Below w.heap.size w w' := by
  have H5 : Hid (5 ≤ w.heap.size) := h5
  have HT : Hid (Tabs (w.alloc (.cells #[.float .f64 x0, .float .f64 x1, .float .f64 x2, .float .f64 x3, .float .f64 x4, .float .f64 x5, .float .f64 x6, .float .f64 x7, .float .f64 x8, .float .f64 x9, .float .f64 x10, .float .f64 x11, .float .f64 x12] 41))) := hT.below ((Below.refl _ _).alloc (Nat.le_refl _) _) h5
  have HB : Hid (Below w.heap.size w (w.alloc (.cells #[.float .f64 x0, .float .f64 x1, .float .f64 x2, .float .f64 x3, .float .f64 x4, .float .f64 x5, .float .f64 x6, .float .f64 x7, .float .f64 x8, .float .f64 x9, .float .f64 x10, .float .f64 x11, .float .f64 x12] 41))) := (Below.refl _ _).alloc (Nat.le_refl _) _
  have HRES : Hid _ := hres
  clear hT h5 hres
  go_enter Ybad.func13, Ybad.ntmps13
  go_wp2_with fail
  go_at_call 26
  refine (altitude_any hsc _ _ _ _ _ _ _ _ _ _ _ _ _ _ _ HT.out (by have := H5.out; simp; omega)).mono ?_
  rintro e w1 ⟨a, b, rfl, ca, cb, hbel⟩
  have TA : (FloatKind.f64.format.order a 0 == some .gt) = gt0 (altF sc (G x0 x1 x2 x3 x4 x5 x6 x7 x8 x9 x10 x11 x12) (cn lo)).1 := gt0_raw ca
  generalize gt0 (altF sc (G x0 x1 x2 x3 x4 x5 x6 x7 x8 x9 x10 x11 x12) (cn lo)).1 = b0 at TA HRES
  have HB1 : Hid (Below (w.heap.size + 1) (w.alloc (.cells #[.float .f64 x0, .float .f64 x1, .float .f64 x2, .float .f64 x3, .float .f64 x4, .float .f64 x5, .float .f64 x6, .float .f64 x7, .float .f64 x8, .float .f64 x9, .float .f64 x10, .float .f64 x11, .float .f64 x12] 41)) w1) := hbel.mono (by simp)
  have T1 : (FloatKind.f64.format.order lo m == some .lt) = _ := lt_raw rfl rfl
  have T2 : (FloatKind.f64.format.order m hi == some .lt) = _ := lt_raw rfl rfl
  have HTA : Hid _ := TA
  clear ca cb hbel TA
  go_upto_region 2 with fail
  go_cut [29] (fun p wc => p = .bool (!(less (cn lo) (cn m) && less (cn m) (cn hi))) ∧ wc = w1)
  case first =>
    cases e1 : less (cn lo) (cn m)
    · rw [e1] at T1
      have E1 : Hid _ := e1
      clear e1
      go_wp2_with fail
      go_meet
      case rel => exact ⟨by rw [E1.out]; rfl, rfl⟩
    · rw [e1] at T1
      have E1 : Hid _ := e1
      clear e1
      cases e2 : less (cn m) (cn hi)
      all_goals
        rw [e2] at T2
        have E2 : Hid _ := e2
        clear e2
        go_wp2_with fail
        go_meet
        case rel => exact ⟨by rw [E1.out, E2.out]; rfl, rfl⟩
  case rest =>
    obtain ⟨rfl, hw⟩ := hcut
    obtain rfl : w1 = wc := hw.symm
    clear hw T1 T2
    go_upto_if 29 with fail
    go_cut [3] (fun p wc => ∃ z k, p = .float .f64 z ∧ cn z = startM (cn lo) (cn hi) (cn m) ∧ wc = w1.drewN k)
    case first =>
      cases e1 : (less (cn lo) (cn m) && less (cn m) (cn hi))
      · have E1 : Hid _ := e1
        clear e1
        go_wp2_with fail
        refine upon_float (by simp) ?_
        intro r3 n3 s3
        go_wp2_with fail
        refine upon_float (by simp) ?_
        intro r4 n4 s4
        go_wp2_with fail
        go_meet
        case rel => exact ⟨_, _, rfl, by unfold startM; rw [E1.out]; exact mid_raw rfl rfl s3.out s4.out, rfl⟩
      · have E1 : Hid _ := e1
        clear e1
        go_wp2_with fail
        go_meet
        case rel => exact ⟨_, 0, rfl, by unfold startM; rw [E1.out]; rfl, rfl⟩
    case rest =>
      obtain ⟨z0, k0, rfl, cz, rfl⟩ := hcut
      rw [← cz] at HRES
      have HB2 : Hid (Below (w.heap.size + 1) (w.alloc (.cells #[.float .f64 x0, .float .f64 x1, .float .f64 x2, .float .f64 x3, .float .f64 x4, .float .f64 x5, .float .f64 x6, .float .f64 x7, .float .f64 x8, .float .f64 x9, .float .f64 x10, .float .f64 x11, .float .f64 x12] 41)) (w1.drewN k0)) := below_drewN HB1.out _
      clear cz HB1
      go_wp2_with fail
      go_loopg [1, 2, 3, 11] n (fun k p1 p2 p3 p11 wr => ∃ lo' hi' m' i', p1 = .float .f64 lo' ∧ p2 = .float .f64 hi' ∧ p3 = .float .f64 m' ∧ p11 = .int .i64 i' ∧ -9223372036854775808 ≤ i' ∧ i' ≤ 9223372036854775807 ∧ Hid (seekF (altF sc (G x0 x1 x2 x3 x4 x5 x6 x7 x8 x9 x10 x11 x12)) b0 k i' (cn lo') (cn hi') (cn m') = some res) ∧ Hid (Below (w.heap.size + 1) (w.alloc (.cells #[.float .f64 x0, .float .f64 x1, .float .f64 x2, .float .f64 x3, .float .f64 x4, .float .f64 x5, .float .f64 x6, .float .f64 x7, .float .f64 x8, .float .f64 x9, .float .f64 x10, .float .f64 x11, .float .f64 x12] 41)) wr))
      case atStart => exact ⟨_, _, _, _, rfl, rfl, rfl, rfl, by omega, by omega, HRES, HB2⟩
      case round =>
        obtain ⟨lo', hi', m', i, rfl, rfl, rfl, rfl, hi1, hi2, HS, HBR⟩ := hrel
        clear HRES HB2
        cases gk with
        | zero => exact absurd HS.out (by simp [seekF])
        | succ gk =>
          have HS' := HS.out
          unfold seekF at HS'
          generalize hal : altF sc (G x0 x1 x2 x3 x4 x5 x6 x7 x8 x9 x10 x11 x12) (cn m') = AR at HS'
          obtain ⟨A, R⟩ := AR
          simp only [] at HS'
          have HSS : Hid _ := HS'
          have HAL : Hid _ := hal
          clear HS HS' hal
          have q0 : wr.cell? ⟨w.heap.size, 0, none⟩ = some (.float .f64 x0) := (HBR.out.cell (p := ⟨w.heap.size, 0, none⟩) (by simp)).trans (by simp [go_sem])
          have q1 : wr.cell? ⟨w.heap.size, 1, none⟩ = some (.float .f64 x1) := (HBR.out.cell (p := ⟨w.heap.size, 1, none⟩) (by simp)).trans (by simp [go_sem])
          have q2 : wr.cell? ⟨w.heap.size, 2, none⟩ = some (.float .f64 x2) := (HBR.out.cell (p := ⟨w.heap.size, 2, none⟩) (by simp)).trans (by simp [go_sem])
          have q3 : wr.cell? ⟨w.heap.size, 3, none⟩ = some (.float .f64 x3) := (HBR.out.cell (p := ⟨w.heap.size, 3, none⟩) (by simp)).trans (by simp [go_sem])
          have q4 : wr.cell? ⟨w.heap.size, 4, none⟩ = some (.float .f64 x4) := (HBR.out.cell (p := ⟨w.heap.size, 4, none⟩) (by simp)).trans (by simp [go_sem])
          have q5 : wr.cell? ⟨w.heap.size, 5, none⟩ = some (.float .f64 x5) := (HBR.out.cell (p := ⟨w.heap.size, 5, none⟩) (by simp)).trans (by simp [go_sem])
          have q6 : wr.cell? ⟨w.heap.size, 6, none⟩ = some (.float .f64 x6) := (HBR.out.cell (p := ⟨w.heap.size, 6, none⟩) (by simp)).trans (by simp [go_sem])
          have q7 : wr.cell? ⟨w.heap.size, 7, none⟩ = some (.float .f64 x7) := (HBR.out.cell (p := ⟨w.heap.size, 7, none⟩) (by simp)).trans (by simp [go_sem])
          have q8 : wr.cell? ⟨w.heap.size, 8, none⟩ = some (.float .f64 x8) := (HBR.out.cell (p := ⟨w.heap.size, 8, none⟩) (by simp)).trans (by simp [go_sem])
          have q9 : wr.cell? ⟨w.heap.size, 9, none⟩ = some (.float .f64 x9) := (HBR.out.cell (p := ⟨w.heap.size, 9, none⟩) (by simp)).trans (by simp [go_sem])
          have q10 : wr.cell? ⟨w.heap.size, 10, none⟩ = some (.float .f64 x10) := (HBR.out.cell (p := ⟨w.heap.size, 10, none⟩) (by simp)).trans (by simp [go_sem])
          have q11 : wr.cell? ⟨w.heap.size, 11, none⟩ = some (.float .f64 x11) := (HBR.out.cell (p := ⟨w.heap.size, 11, none⟩) (by simp)).trans (by simp [go_sem])
          have q12 : wr.cell? ⟨w.heap.size, 12, none⟩ = some (.float .f64 x12) := (HBR.out.cell (p := ⟨w.heap.size, 12, none⟩) (by simp)).trans (by simp [go_sem])
          go_wp2_with fail
          go_at_call 26
          refine (altitude_any hsc _ _ _ _ _ _ _ _ _ _ _ _ _ _ _ (HT.out.below HBR.out (by have := H5.out; omega)) (by have h1 := HBR.out.size; have h2 := H5.out; simp at h1 ⊢; omega)).mono ?_
          rintro e w2 ⟨a', b', rfl, ca, cb, hbel⟩
          rw [HAL.out] at ca cb
          have T1 : (FloatKind.f64.format.order a' 0 == some .gt) = gt0 A := gt0_raw ca
          have T2 := HTA.out
          have HCA : Hid (cn a' = A) := ca
          have HCB : Hid (cn b' = R) := cb
          have HB2 : Hid (Below (w.heap.size + 1) (w.alloc (.cells #[.float .f64 x0, .float .f64 x1, .float .f64 x2, .float .f64 x3, .float .f64 x4, .float .f64 x5, .float .f64 x6, .float .f64 x7, .float .f64 x8, .float .f64 x9, .float .f64 x10, .float .f64 x11, .float .f64 x12] 41)) w2) := HBR.out.trans (hbel.mono (by have h1 := HBR.out.size; simp at h1 ⊢; omega))
          clear ca cb hbel q0 q1 q2 q3 q4 q5 q6 q7 q8 q9 q10 q11 q12
          go_upto_if 46 with fail
          go_cut [1, 2] (fun p q wc => ∃ l h, p = .float .f64 l ∧ q = .float .f64 h ∧ cn l = (nlo b0 A (cn lo') (cn m')) ∧ cn h = (nhi b0 A (cn hi') (cn m')) ∧ wc = w2)
          case first =>
            cases hg : (gt0 A == b0)
            · have HG : Hid ((gt0 A == b0) = false) := hg
              clear hg
              go_wp2_with fail
              go_meet
              case rel => exact ⟨_, _, rfl, rfl, by unfold nlo; rw [HG.out]; rfl, by unfold nhi; rw [HG.out]; rfl, rfl⟩
            · have HG : Hid ((gt0 A == b0) = true) := hg
              clear hg
              go_wp2_with fail
              go_meet
              case rel => exact ⟨_, _, rfl, rfl, by unfold nlo; rw [HG.out]; rfl, by unfold nhi; rw [HG.out]; rfl, rfl⟩
          case rest =>
            obtain ⟨l, h, rfl, rfl, cl, ch, hw⟩ := hcut
            obtain rfl : w2 = wc := hw.symm
            have HL : Hid _ := cl
            have HH : Hid _ := ch
            clear cl ch hw T1 T2
            go_wp2_with fail
            refine upon_float (by simp) ?_
            intro r1 n1 s1
            go_wp2_with fail
            refine upon_float (by simp) ?_
            intro r2 n2 s2
            have HNW : Hid (cn r2 = (newton A R (cn m'))) := by show cn r2 = _; rw [s2.out, s1.out, HCA.out, HCB.out]; rfl
            have T1 : (FloatKind.f64.format.order l r2 == some .lt || FloatKind.f64.format.order l r2 == some .eq) = _ := leq_raw HL.out HNW.out
            have T2 : (FloatKind.f64.format.order r2 h == some .lt || FloatKind.f64.format.order r2 h == some .eq) = _ := leq_raw HNW.out HH.out
            clear s1 s2
            go_upto_region 11 with fail
            go_cut [66] (fun p wc => p = .bool (!ok i (nlo b0 A (cn lo') (cn m')) (nhi b0 A (cn hi') (cn m')) (newton A R (cn m'))) ∧ wc = w2.drewN (n1 + n2))
            case first =>
              by_cases h20 : i < 20
              · cases e1 : leq (nlo b0 A (cn lo') (cn m')) (newton A R (cn m'))
                · rw [e1] at T1
                  have E1 : Hid _ := e1
                  clear e1 T2
                  go_wp2_with fail
                  go_meet
                  case rel => exact ⟨by unfold ok; rw [E1.out]; simp, rfl⟩
                · rw [e1] at T1
                  have E1 : Hid _ := e1
                  clear e1
                  cases e2 : leq (newton A R (cn m')) (nhi b0 A (cn hi') (cn m'))
                  · rw [e2] at T2
                    have E2 : Hid _ := e2
                    clear e2
                    go_wp2_with fail
                    go_meet
                    case rel => exact ⟨by unfold ok; rw [E1.out, E2.out]; simp, rfl⟩
                  · rw [e2] at T2
                    have E2 : Hid _ := e2
                    clear e2
                    go_wp2_with fail
                    go_meet
                    case rel => exact ⟨by unfold ok; rw [E1.out, E2.out]; simp [show ¬ 20 ≤ i by omega, h20], rfl⟩
              · go_wp2_with fail
                go_meet
                case rel => exact ⟨by unfold ok; rw [decide_eq_false (by omega)]; simp, rfl⟩
            case rest =>
              obtain ⟨rfl, rfl⟩ := hcut
              clear T1 T2
              go_upto_if 66 with fail
              go_cut [14] (fun p wc => ∃ z k, p = .float .f64 z ∧ cn z = nextM i (nlo b0 A (cn lo') (cn m')) (nhi b0 A (cn hi') (cn m')) (newton A R (cn m')) ∧ wc = w2.drewN k)
              case first =>
                cases ho : ok i (nlo b0 A (cn lo') (cn m')) (nhi b0 A (cn hi') (cn m')) (newton A R (cn m'))
                · have HO : Hid _ := ho
                  clear ho
                  go_wp2_with fail
                  refine upon_float (by simp) ?_
                  intro r3 n3 s3
                  go_wp2_with fail
                  refine upon_float (by simp) ?_
                  intro r4 n4 s4
                  go_wp2_with fail
                  go_meet
                  case rel => exact ⟨_, _, rfl, by unfold nextM; rw [HO.out]; exact mid_raw HL.out HH.out s3.out s4.out, rfl⟩
                · have HO : Hid _ := ho
                  clear ho
                  go_wp2_with fail
                  go_meet
                  case rel => exact ⟨_, _, rfl, by unfold nextM; rw [HO.out]; exact HNW.out, rfl⟩
              case rest =>
                obtain ⟨z, k5, rfl, cz, rfl⟩ := hcut
                have HZ : Hid _ := cz
                clear cz
                go_wp2_with fail
                refine upon_float64 (by simp) ?_
                intro r5 n5 s5 l5
                have T3 : (FloatKind.f64.format.order (absW r5) 4487126258331716666 == some .lt) = stop (nextM i (nlo b0 A (cn lo') (cn m')) (nhi b0 A (cn hi') (cn m')) (newton A R (cn m'))) (cn m') := stop_raw (by rw [s5.out, HZ.out])
                clear s5
                go_wp2_with fail
                go_at_call 12
                refine (abs_any _ _ l5.out).mono ?_
                rintro e w' ⟨rfl, hw⟩
                rw [hw]
                clear hw
                cases hst : stop (nextM i (nlo b0 A (cn lo') (cn m')) (nhi b0 A (cn hi') (cn m')) (newton A R (cn m'))) (cn m')
                · have HST : Hid _ := hst
                  rw [hst] at T3
                  clear hst
                  go_wp2_with fail
                  go_roundg gk
                  case measure => omega
                  case rel =>
                    refine ⟨_, _, _, _, rfl, rfl, rfl, rfl, by unfold wrap64; omega, by unfold wrap64; omega, ?_, below_drewN HB2.out _⟩
                    have h1 := HSS.out
                    rw [HST.out, cond_false] at h1
                    show _ = _
                    rw [HL.out, HH.out, HZ.out]
                    exact h1
                · have HST : Hid _ := hst
                  rw [hst] at T3
                  clear hst
                  go_wp2_with fail
                  go_ret
                  refine ⟨_, rfl, ?_, below_drewN (HB.out.trans (HB2.out.mono (by omega))) _⟩
                  have h1 := HSS.out
                  rw [HST.out, cond_true] at h1
                  rw [HZ.out]
                  exact Option.some.inj h1
end Go.Proofs.YbulkdswqDoor
