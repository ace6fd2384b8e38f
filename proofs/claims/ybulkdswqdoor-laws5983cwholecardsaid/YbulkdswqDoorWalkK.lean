import Derived.Test.YbulkdswqDoorWalkJ
namespace Go.Proofs.YbulkdswqDoor
open Go.RowKit Go.Op
set_option linter.unusedVariables false
set_option linter.unusedSimpArgs false

theorem leq_top {x : Nat} (h : leq (absW x) MAXR = true) : fits x := by
  by_cases hf : rg x < INF
  · unfold leq at h
    rw [absW_rg, order_lt (by rw [rg_rg]; exact hf) (by decide), order_eq (by rw [rg_rg]; exact hf) (by decide), K_nn (rg_lt x), K_nn (r := MAXR) (by decide)] at h
    simp at h
    unfold fits; omega
  · exfalso
    by_cases hi : rg x = INF
    · unfold leq at h
      rw [absW_rg, hi] at h
      revert h; decide
    · have hn : isNaN (absW x) = true := by rw [isNaN_rg, absW_rg, rg_rg]; simp; omega
      unfold leq at h
      rw [order_nan_l hn] at h
      simp at h

theorem fits_nan {x : Nat} (h : fits x) : isNaN x = false := by
  have := h.fin
  rw [isNaN_rg]; simp; omega

theorem less_fin {x y : Nat} (hx : rg x < INF) (h : less x y = true) : K x < K y ∨ INF ≤ rg y := by
  by_cases hy : rg y < INF
  · unfold less at h
    rw [order_lt hx hy] at h
    left; simpa using h
  · right; omega

theorem start_inv {lo hi m : Nat} (h1 : fits lo) (h2 : fits hi) : Inv 0 lo hi (startM lo hi m) := by
  have key : btw (K lo) (K (startM lo hi m)) (K hi) ∧ fits (startM lo hi m) := by
    unfold startM
    cases h : (less lo m && less m hi)
    · have hb := mid_btw h1 h2
      exact ⟨hb, fits_btw h1 h2 hb⟩
    · simp only [cond_true]
      simp only [Bool.and_eq_true] at h
      have e1 : leq lo m = true := by have := h.1; unfold less at this; unfold leq; rw [this]; rfl
      have e2 : leq m hi = true := by have := h.2; unfold less at this; unfold leq; rw [this]; rfl
      obtain ⟨_, a, b⟩ := leq_both h1.fin h2.fin e1 e2
      exact ⟨.inl ⟨a, b⟩, fits_btw h1 h2 (.inl ⟨a, b⟩)⟩
  exact ⟨h1, h2, key.2, key.1, by omega, by omega, fun h => by omega⟩

theorem seek_fits (alt : Nat → Nat × Nat) (b0 : Bool) : ∀ (n : Nat) (i : Int) (lo hi m r : Nat), Inv i lo hi m → seekF alt b0 n i lo hi m = some r → fits r := by
  intro n
  induction n with
  | zero => intro i lo hi m r _ h; cases h
  | succ n ih =>
    intro i lo hi m r hI h
    unfold seekF at h
    simp only [] at h
    have hn := hI.next b0 (alt m).1 (newton (alt m).1 (alt m).2 m)
    cases hs : stop (nextM i (nlo b0 (alt m).1 lo m) (nhi b0 (alt m).1 hi m) (newton (alt m).1 (alt m).2 m)) m
    · rw [hs, cond_false] at h
      exact ih _ _ _ _ _ hn h
    · rw [hs, cond_true] at h
      cases h
      exact hn.fm

theorem search (alt : Nat → Nat × Nat) (lo hi m : Nat) (h1 : fits lo) (h2 : fits hi) :
    ∃ n r, isNaN r = false ∧ seekF alt (gt0 (alt (cn lo)).1) n 0 (cn lo) (cn hi) (startM (cn lo) (cn hi) (cn m)) = some r := by
  rw [cn_not (fits_nan h1), cn_not (fits_nan h2)]
  have hI := start_inv (m := cn m) h1 h2
  obtain ⟨n, r, h⟩ := seek_ends alt (gt0 (alt lo).1) (dist lo hi) 21 0 lo hi (startM lo hi (cn m)) hI (Nat.le_refl _) (by decide)
  exact ⟨n, r, fits_nan (seek_fits alt _ n 0 lo hi _ r hI h), h⟩

theorem raw_eq {r res : Nat} (h : cn r = res) (hn : isNaN res = false) : r = res := by
  have : isNaN r = false := by rw [← cn_isNaN, h]; exact hn
  rwa [cn_not this] at h

attribute [local go_sem] store_float in
set_option maxRecDepth 8000 in
set_option maxHeartbeats 8000000 in
theorem law_any {sc : Nat → Nat × Nat} (hsc : Sc sc) (x0 x1 x2 x3 x4 x5 x6 x7 x8 x9 x10 x11 x12 lo hi m : Nat) (w : World) (hT : Tabs w) (h5 : 5 ≤ w.heap.size) (hlo : lo < 2 ^ 64) (hhi : hi < 2 ^ 64) :
    Calls Ybad.prog 4 #[.agg #[.float .f64 x0, .float .f64 x1, .float .f64 x2, .float .f64 x3, .float .f64 x4, .float .f64 x5, .float .f64 x6, .float .f64 x7, .float .f64 x8, .float .f64 x9, .float .f64 x10, .float .f64 x11, .float .f64 x12], .float .f64 lo, .float .f64 hi, .float .f64 m] w
      fun e w' => e = .returned (.bool true) ∧ Below w.heap.size w w' := by
  have H5 : Hid (5 ≤ w.heap.size) := h5
  have HT : Hid (Tabs w) := hT
  have HLO : Hid (lo < 2 ^ 64) := hlo
  have HHI : Hid (hi < 2 ^ 64) := hhi
  have HB : Hid (Below w.heap.size w (w.alloc (.cells #[.float .f64 x0, .float .f64 x1, .float .f64 x2, .float .f64 x3, .float .f64 x4, .float .f64 x5, .float .f64 x6, .float .f64 x7, .float .f64 x8, .float .f64 x9, .float .f64 x10, .float .f64 x11, .float .f64 x12] 38))) := (Below.refl _ _).alloc (Nat.le_refl _) _
  have T1 : (FloatKind.f64.format.order (absW lo) 9094988921128908188 == some .lt || FloatKind.f64.format.order (absW lo) 9094988921128908188 == some .eq) = leq (absW lo) MAXR := rfl
  have T2 : (FloatKind.f64.format.order (absW hi) 9094988921128908188 == some .lt || FloatKind.f64.format.order (absW hi) 9094988921128908188 == some .eq) = leq (absW hi) MAXR := rfl
  clear hT h5 hlo hhi
  go_enter Ybad.func4, Ybad.ntmps4
  cases e1 : leq (absW lo) MAXR
  · rw [e1] at T1
    clear e1
    go_wp2_with (go_at_call 12; refine (abs_any _ _ (by first | exact HLO.out | exact HHI.out)).mono ?_; rintro e w' ⟨rfl, hw⟩; rw [hw]; clear hw)
    go_ret
    exact ⟨rfl, HB.out⟩
  · have F1 : Hid _ := leq_top e1
    rw [e1] at T1
    clear e1
    cases e2 : leq (absW hi) MAXR
    · rw [e2] at T2
      clear e2
      go_wp2_with (go_at_call 12; refine (abs_any _ _ (by first | exact HLO.out | exact HHI.out)).mono ?_; rintro e w' ⟨rfl, hw⟩; rw [hw]; clear hw)
      go_ret
      exact ⟨rfl, HB.out⟩
    · have F2 : Hid _ := leq_top e2
      rw [e2] at T2
      clear e2
      obtain ⟨n, res, hnn, hres⟩ := search (altF sc (G x0 x1 x2 x3 x4 x5 x6 x7 x8 x9 x10 x11 x12)) lo hi m F1.out F2.out
      have HNN : Hid _ := hnn
      have HRES : Hid _ := hres
      clear hnn hres
      go_wp2_with (go_at_call 12; refine (abs_any _ _ (by first | exact HLO.out | exact HHI.out)).mono ?_; rintro e w' ⟨rfl, hw⟩; rw [hw]; clear hw)
      go_at_call 13
      have HW : Hid (Below (w.heap.size + 1) (w.alloc (.cells #[.float .f64 x0, .float .f64 x1, .float .f64 x2, .float .f64 x3, .float .f64 x4, .float .f64 x5, .float .f64 x6, .float .f64 x7, .float .f64 x8, .float .f64 x9, .float .f64 x10, .float .f64 x11, .float .f64 x12] 38)) ((w.alloc (.cells #[.float .f64 x0, .float .f64 x1, .float .f64 x2, .float .f64 x3, .float .f64 x4, .float .f64 x5, .float .f64 x6, .float .f64 x7, .float .f64 x8, .float .f64 x9, .float .f64 x10, .float .f64 x11, .float .f64 x12] 38)).alloc (.cells #[.float .f64 x0, .float .f64 x1, .float .f64 x2, .float .f64 x3, .float .f64 x4, .float .f64 x5, .float .f64 x6, .float .f64 x7, .float .f64 x8, .float .f64 x9, .float .f64 x10, .float .f64 x11, .float .f64 x12] 41))) := (Below.refl _ _).alloc (by simp) _
      have HTW : Hid (Tabs (w.alloc (.cells #[.float .f64 x0, .float .f64 x1, .float .f64 x2, .float .f64 x3, .float .f64 x4, .float .f64 x5, .float .f64 x6, .float .f64 x7, .float .f64 x8, .float .f64 x9, .float .f64 x10, .float .f64 x11, .float .f64 x12] 38))) := HT.out.below HB.out H5.out
      refine (crossing_any hsc x0 x1 x2 x3 x4 x5 x6 x7 x8 x9 x10 x11 x12 n lo hi m res _ (HTW.out.below HW.out (by have := H5.out; omega)) (by have := H5.out; simp; omega) HRES.out).mono ?_
      rintro e w1 ⟨got, rfl, cg, hbel⟩
      obtain rfl := raw_eq cg HNN.out
      have HB1 : Hid (Below (w.heap.size + 1) (w.alloc (.cells #[.float .f64 x0, .float .f64 x1, .float .f64 x2, .float .f64 x3, .float .f64 x4, .float .f64 x5, .float .f64 x6, .float .f64 x7, .float .f64 x8, .float .f64 x9, .float .f64 x10, .float .f64 x11, .float .f64 x12] 38)) w1) := HW.out.trans (hbel.mono (by simp))
      clear cg hbel HW T1 T2
      have q0 : w1.cell? ⟨w.heap.size, 0, none⟩ = some (.float .f64 x0) := (HB1.out.cell (p := ⟨w.heap.size, 0, none⟩) (by simp)).trans (by simp [go_sem])
      have q1 : w1.cell? ⟨w.heap.size, 1, none⟩ = some (.float .f64 x1) := (HB1.out.cell (p := ⟨w.heap.size, 1, none⟩) (by simp)).trans (by simp [go_sem])
      have q2 : w1.cell? ⟨w.heap.size, 2, none⟩ = some (.float .f64 x2) := (HB1.out.cell (p := ⟨w.heap.size, 2, none⟩) (by simp)).trans (by simp [go_sem])
      have q3 : w1.cell? ⟨w.heap.size, 3, none⟩ = some (.float .f64 x3) := (HB1.out.cell (p := ⟨w.heap.size, 3, none⟩) (by simp)).trans (by simp [go_sem])
      have q4 : w1.cell? ⟨w.heap.size, 4, none⟩ = some (.float .f64 x4) := (HB1.out.cell (p := ⟨w.heap.size, 4, none⟩) (by simp)).trans (by simp [go_sem])
      have q5 : w1.cell? ⟨w.heap.size, 5, none⟩ = some (.float .f64 x5) := (HB1.out.cell (p := ⟨w.heap.size, 5, none⟩) (by simp)).trans (by simp [go_sem])
      have q6 : w1.cell? ⟨w.heap.size, 6, none⟩ = some (.float .f64 x6) := (HB1.out.cell (p := ⟨w.heap.size, 6, none⟩) (by simp)).trans (by simp [go_sem])
      have q7 : w1.cell? ⟨w.heap.size, 7, none⟩ = some (.float .f64 x7) := (HB1.out.cell (p := ⟨w.heap.size, 7, none⟩) (by simp)).trans (by simp [go_sem])
      have q8 : w1.cell? ⟨w.heap.size, 8, none⟩ = some (.float .f64 x8) := (HB1.out.cell (p := ⟨w.heap.size, 8, none⟩) (by simp)).trans (by simp [go_sem])
      have q9 : w1.cell? ⟨w.heap.size, 9, none⟩ = some (.float .f64 x9) := (HB1.out.cell (p := ⟨w.heap.size, 9, none⟩) (by simp)).trans (by simp [go_sem])
      have q10 : w1.cell? ⟨w.heap.size, 10, none⟩ = some (.float .f64 x10) := (HB1.out.cell (p := ⟨w.heap.size, 10, none⟩) (by simp)).trans (by simp [go_sem])
      have q11 : w1.cell? ⟨w.heap.size, 11, none⟩ = some (.float .f64 x11) := (HB1.out.cell (p := ⟨w.heap.size, 11, none⟩) (by simp)).trans (by simp [go_sem])
      have q12 : w1.cell? ⟨w.heap.size, 12, none⟩ = some (.float .f64 x12) := (HB1.out.cell (p := ⟨w.heap.size, 12, none⟩) (by simp)).trans (by simp [go_sem])
      go_wp2_with fail
      go_at_call 14
      refine (calt_any hsc _ _ _ _ _ _ _ _ _ _ _ _ _ _ _ (HTW.out.below HB1.out (by have := H5.out; omega)) (by have h1 := HB1.out.size; have h2 := H5.out; simp at h1 ⊢; omega)).mono ?_
      rintro e w2 ⟨a, b, rfl, ca, cb, hbel⟩
      have TA : (FloatKind.f64.format.order a 0 == some .gt) = gt0 (altF sc (G x0 x1 x2 x3 x4 x5 x6 x7 x8 x9 x10 x11 x12) (cn lo)).1 := gt0_raw ca
      generalize gt0 (altF sc (G x0 x1 x2 x3 x4 x5 x6 x7 x8 x9 x10 x11 x12) (cn lo)).1 = b0 at TA HRES
      have HB2 : Hid (Below (w.heap.size + 1) (w.alloc (.cells #[.float .f64 x0, .float .f64 x1, .float .f64 x2, .float .f64 x3, .float .f64 x4, .float .f64 x5, .float .f64 x6, .float .f64 x7, .float .f64 x8, .float .f64 x9, .float .f64 x10, .float .f64 x11, .float .f64 x12] 38)) w2) := HB1.out.trans (hbel.mono (by have h1 := HB1.out.size; simp at h1 ⊢; omega))
      have T1 : (FloatKind.f64.format.order lo m == some .lt) = _ := lt_raw rfl rfl
      have T2 : (FloatKind.f64.format.order m hi == some .lt) = _ := lt_raw rfl rfl
      have HTA : Hid _ := TA
      clear ca cb hbel TA HB1 q0 q1 q2 q3 q4 q5 q6 q7 q8 q9 q10 q11 q12
      go_upto_region 7 with fail
      go_cut [63] (fun p wc => p = .bool (!(less (cn lo) (cn m) && less (cn m) (cn hi))) ∧ wc = w2)
      case first =>
        cases e1 : less (cn lo) (cn m)
        · rw [e1] at T1
          have E1 : Hid _ := e1
          clear e1
          go_wp2_with fail
          go_meet
          case rel => exact ⟨by rw [E1.out]; rfl, rfl⟩
        · rw [e1] at T1
          have E1 : Hid _ := e1
          clear e1
          cases e2 : less (cn m) (cn hi)
          all_goals
            rw [e2] at T2
            have E2 : Hid _ := e2
            clear e2
            go_wp2_with fail
            go_meet
            case rel => exact ⟨by rw [E1.out, E2.out]; rfl, rfl⟩
      case rest =>
        obtain ⟨rfl, hw⟩ := hcut
        obtain rfl : w2 = wc := hw.symm
        clear hw T1 T2
        go_upto_if 63 with fail
        go_cut [13] (fun p wc => ∃ z k, p = .float .f64 z ∧ cn z = startM (cn lo) (cn hi) (cn m) ∧ wc = w2.drewN k)
        case first =>
          cases e1 : (less (cn lo) (cn m) && less (cn m) (cn hi))
          · have E1 : Hid _ := e1
            clear e1
            go_wp2_with fail
            refine upon_float (by simp) ?_
            intro r3 n3 s3
            go_wp2_with fail
            refine upon_float (by simp) ?_
            intro r4 n4 s4
            go_wp2_with fail
            go_meet
            case rel => exact ⟨_, _, rfl, by unfold startM; rw [E1.out]; exact mid_raw rfl rfl s3.out s4.out, rfl⟩
          · have E1 : Hid _ := e1
            clear e1
            go_wp2_with fail
            go_meet
            case rel => exact ⟨_, 0, rfl, by unfold startM; rw [E1.out]; rfl, rfl⟩
        case rest =>
          obtain ⟨z0, k0, rfl, cz, rfl⟩ := hcut
          rw [← cz] at HRES
          have HB1 : Hid (Below (w.heap.size + 1) (w.alloc (.cells #[.float .f64 x0, .float .f64 x1, .float .f64 x2, .float .f64 x3, .float .f64 x4, .float .f64 x5, .float .f64 x6, .float .f64 x7, .float .f64 x8, .float .f64 x9, .float .f64 x10, .float .f64 x11, .float .f64 x12] 38)) (w2.drewN k0)) := below_drewN HB2.out _
          have TA := HTA.out
          have hbr := bits_run
          clear cz
          have q0 : w2.cell? ⟨w.heap.size, 0, none⟩ = some (.float .f64 x0) := (HB2.out.cell (p := ⟨w.heap.size, 0, none⟩) (by simp)).trans (by simp [go_sem])
          have q1 : w2.cell? ⟨w.heap.size, 1, none⟩ = some (.float .f64 x1) := (HB2.out.cell (p := ⟨w.heap.size, 1, none⟩) (by simp)).trans (by simp [go_sem])
          have q2 : w2.cell? ⟨w.heap.size, 2, none⟩ = some (.float .f64 x2) := (HB2.out.cell (p := ⟨w.heap.size, 2, none⟩) (by simp)).trans (by simp [go_sem])
          have q3 : w2.cell? ⟨w.heap.size, 3, none⟩ = some (.float .f64 x3) := (HB2.out.cell (p := ⟨w.heap.size, 3, none⟩) (by simp)).trans (by simp [go_sem])
          have q4 : w2.cell? ⟨w.heap.size, 4, none⟩ = some (.float .f64 x4) := (HB2.out.cell (p := ⟨w.heap.size, 4, none⟩) (by simp)).trans (by simp [go_sem])
          have q5 : w2.cell? ⟨w.heap.size, 5, none⟩ = some (.float .f64 x5) := (HB2.out.cell (p := ⟨w.heap.size, 5, none⟩) (by simp)).trans (by simp [go_sem])
          have q6 : w2.cell? ⟨w.heap.size, 6, none⟩ = some (.float .f64 x6) := (HB2.out.cell (p := ⟨w.heap.size, 6, none⟩) (by simp)).trans (by simp [go_sem])
          have q7 : w2.cell? ⟨w.heap.size, 7, none⟩ = some (.float .f64 x7) := (HB2.out.cell (p := ⟨w.heap.size, 7, none⟩) (by simp)).trans (by simp [go_sem])
          have q8 : w2.cell? ⟨w.heap.size, 8, none⟩ = some (.float .f64 x8) := (HB2.out.cell (p := ⟨w.heap.size, 8, none⟩) (by simp)).trans (by simp [go_sem])
          have q9 : w2.cell? ⟨w.heap.size, 9, none⟩ = some (.float .f64 x9) := (HB2.out.cell (p := ⟨w.heap.size, 9, none⟩) (by simp)).trans (by simp [go_sem])
          have q10 : w2.cell? ⟨w.heap.size, 10, none⟩ = some (.float .f64 x10) := (HB2.out.cell (p := ⟨w.heap.size, 10, none⟩) (by simp)).trans (by simp [go_sem])
          have q11 : w2.cell? ⟨w.heap.size, 11, none⟩ = some (.float .f64 x11) := (HB2.out.cell (p := ⟨w.heap.size, 11, none⟩) (by simp)).trans (by simp [go_sem])
          have q12 : w2.cell? ⟨w.heap.size, 12, none⟩ = some (.float .f64 x12) := (HB2.out.cell (p := ⟨w.heap.size, 12, none⟩) (by simp)).trans (by simp [go_sem])
          go_wp2_with fail
          go_at_call 15
          refine (seek_any hsc _ _ _ _ _ _ _ _ _ _ _ _ _ b0 n 0 lo hi z0 _ _ (HTW.out.below HB1.out (by have := H5.out; omega)) (by have h1 := HB1.out.size; have h2 := H5.out; simp at h1 ⊢; omega) (by omega) (by omega) HRES.out).mono ?_
          rintro e w3 ⟨want, rfl, cg, hbel⟩
          obtain rfl := raw_eq cg HNN.out
          have HB3 : Hid (Below w.heap.size w w3) := HB.out.trans ((HB1.out.trans (hbel.mono (by have h1 := HB1.out.size; simp at h1 ⊢; omega))).mono (by omega))
          clear cg hbel q0 q1 q2 q3 q4 q5 q6 q7 q8 q9 q10 q11 q12
          go_wp2_with fail
          go_ret
          exact ⟨by simp, HB3.out⟩
end Go.Proofs.YbulkdswqDoor
