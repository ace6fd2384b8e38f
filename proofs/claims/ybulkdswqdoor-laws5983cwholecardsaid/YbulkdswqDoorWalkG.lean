import Derived.Test.YbulkdswqDoorWalkF
namespace Go.Proofs.YbulkdswqDoor
open Go.RowKit Go.Op
set_option linter.unusedVariables false
set_option linter.unusedSimpArgs false

/-- Sincos as a plain function. -/
def Sc (sc : Nat → Nat × Nat) : Prop := ∀ x w, x < 2 ^ 64 → Tabs w →
    Calls Ybad.prog 27 #[.float .f64 x] w fun e w' => ∃ s c k, e = .returned (.tuple #[.float .f64 s, .float .f64 c]) ∧ cn s = (sc (cn x)).1 ∧ cn c = (sc (cn x)).2 ∧ w' = w.drewN k

theorem Tabs.below {n : Nat} {w w' : World} (hb : Below n w w') (hn : 5 ≤ n) (h : Tabs w) : Tabs w' := by
  have e : ∀ b o, b < 5 → w'.cell? ⟨b, o, none⟩ = w.cell? ⟨b, o, none⟩ := fun b o hl => hb.cell (p := ⟨b, o, none⟩) (by show b < n; omega)
  obtain ⟨g0, g1, g2, g3, g4, g5, f0, f1, f2, f3, f4, f5, pi⟩ := h
  refine ⟨?_, ?_, ?_, ?_, ?_, ?_, ?_, ?_, ?_, ?_, ?_, ?_, fun k hk => ?_⟩
  · rw [e _ _ (by omega)]; exact g0
  · rw [e _ _ (by omega)]; exact g1
  · rw [e _ _ (by omega)]; exact g2
  · rw [e _ _ (by omega)]; exact g3
  · rw [e _ _ (by omega)]; exact g4
  · rw [e _ _ (by omega)]; exact g5
  · rw [e _ _ (by omega)]; exact f0
  · rw [e _ _ (by omega)]; exact f1
  · rw [e _ _ (by omega)]; exact f2
  · rw [e _ _ (by omega)]; exact f3
  · rw [e _ _ (by omega)]; exact f4
  · rw [e _ _ (by omega)]; exact f5
  · rw [e _ _ (by omega)]; exact pi k hk

def G (x0 x1 x2 x3 x4 x5 x6 x7 x8 x9 x10 x11 x12 : Nat) : Nat → Nat
  | 0 => cn x0
  | 1 => cn x1
  | 2 => cn x2
  | 3 => cn x3
  | 4 => cn x4
  | 5 => cn x5
  | 6 => cn x6
  | 7 => cn x7
  | 8 => cn x8
  | 9 => cn x9
  | 10 => cn x10
  | 11 => cn x11
  | _ => cn x12
def raF (g : Nat → Nat) (t : Nat) : Nat := fop .sub (fop .add (fop .add (g 3) (fop .mul WW t)) (g 0)) (atF (g 4) (g 5) (g 6) (fop .add t (g 10)))
def deF (g : Nat → Nat) (t : Nat) : Nat := atF (g 7) (g 8) (g 9) (fop .add t (g 10))
def altF (sc : Nat → Nat × Nat) (g : Nat → Nat) (t : Nat) : Nat × Nat :=
  (fop .sub (fop .add (fop .mul (g 1) (sc (deF g t)).1) (fop .mul (fop .mul (g 2) (sc (deF g t)).2) (sc (raF g t)).2)) (g 12),
   fop .sub (fop .mul (fop .sub (fop .mul (g 1) (sc (deF g t)).2) (fop .mul (fop .mul (g 2) (sc (deF g t)).1) (sc (raF g t)).2)) (slF (g 7) (g 8) (g 9) (fop .add t (g 10)))) (fop .mul (fop .mul (fop .mul (g 2) (sc (deF g t)).2) (sc (raF g t)).1) (fop .sub WW (slF (g 4) (g 5) (g 6) (fop .add t (g 10))))))

def psi26 (B0 N S1 C1 S2 C2 x0 x1 x2 x3 x4 x5 x6 x7 x8 x9 x10 x11 x12 : Nat) : Nat → Value → Prop
  | 47 => fun v => v = .pointer (some ⟨B0, 1, none⟩)
  | 48 => fun v => isF (cn x1) v
  | 49 => fun v => isF C2 v
  | 50 => fun v => isG (fop .mul (cn x1) C2) v
  | 51 => fun v => v = .pointer (some ⟨B0, 2, none⟩)
  | 52 => fun v => isF (cn x2) v
  | 53 => fun v => isF S2 v
  | 54 => fun v => isG (fop .mul (cn x2) S2) v
  | 55 => fun v => isF C1 v
  | 56 => fun v => isG (fop .mul (fop .mul (cn x2) S2) C1) v
  | 57 => fun v => isG (fop .sub (fop .mul (cn x1) C2) (fop .mul (fop .mul (cn x2) S2) C1)) v
  | 58 => fun v => v = .pointer (some ⟨B0, 7, none⟩)
  | 59 => fun v => v = .agg #[.float .f64 x7, .float .f64 x8, .float .f64 x9]
  | 60 => fun v => isF N v
  | 61 => fun v => isG (slF (cn x7) (cn x8) (cn x9) N) v
  | 62 => fun v => isG (fop .mul (fop .sub (fop .mul (cn x1) C2) (fop .mul (fop .mul (cn x2) S2) C1)) (slF (cn x7) (cn x8) (cn x9) N)) v
  | 63 => fun v => v = .pointer (some ⟨B0, 2, none⟩)
  | 64 => fun v => isF (cn x2) v
  | 65 => fun v => isF C2 v
  | 66 => fun v => isG (fop .mul (cn x2) C2) v
  | 67 => fun v => isF S1 v
  | 68 => fun v => isG (fop .mul (fop .mul (cn x2) C2) S1) v
  | 69 => fun v => v = .pointer (some ⟨B0, 4, none⟩)
  | 70 => fun v => v = .agg #[.float .f64 x4, .float .f64 x5, .float .f64 x6]
  | 71 => fun v => isF N v
  | 72 => fun v => isG (slF (cn x4) (cn x5) (cn x6) N) v
  | 73 => fun v => isG (fop .sub (cn 4618779624793909604) (slF (cn x4) (cn x5) (cn x6) N)) v
  | 74 => fun v => isG (fop .mul (fop .mul (fop .mul (cn x2) C2) S1) (fop .sub (cn 4618779624793909604) (slF (cn x4) (cn x5) (cn x6) N))) v
  | 75 => fun v => isG (fop .sub (fop .mul (fop .sub (fop .mul (cn x1) C2) (fop .mul (fop .mul (cn x2) S2) C1)) (slF (cn x7) (cn x8) (cn x9) N)) (fop .mul (fop .mul (fop .mul (cn x2) C2) S1) (fop .sub (cn 4618779624793909604) (slF (cn x4) (cn x5) (cn x6) N)))) v
  | 5 => fun v => isG (fop .sub (fop .mul (fop .sub (fop .mul (cn x1) C2) (fop .mul (fop .mul (cn x2) S2) C1)) (slF (cn x7) (cn x8) (cn x9) N)) (fop .mul (fop .mul (fop .mul (cn x2) C2) S1) (fop .sub (cn 4618779624793909604) (slF (cn x4) (cn x5) (cn x6) N)))) v
  | _ => fun _ => True

set_option maxHeartbeats 4000000 in
theorem altitude_any {sc : Nat → Nat × Nat} (hsc : Sc sc) (x0 x1 x2 x3 x4 x5 x6 x7 x8 x9 x10 x11 x12 t : Nat) (w : World) (hT : Tabs w) (h5 : 5 ≤ w.heap.size) :
    Calls Ybad.prog 26 #[.agg #[.float .f64 x0, .float .f64 x1, .float .f64 x2, .float .f64 x3, .float .f64 x4, .float .f64 x5, .float .f64 x6, .float .f64 x7, .float .f64 x8, .float .f64 x9, .float .f64 x10, .float .f64 x11, .float .f64 x12], .float .f64 t] w fun e w' => ∃ a b, e = .returned (.tuple #[.float .f64 a, .float .f64 b]) ∧ cn a = (altF sc (G x0 x1 x2 x3 x4 x5 x6 x7 x8 x9 x10 x11 x12) (cn t)).1 ∧ cn b = (altF sc (G x0 x1 x2 x3 x4 x5 x6 x7 x8 x9 x10 x11 x12) (cn t)).2 ∧ Below w.heap.size w w' := by
  have HT : Hid (Tabs w) := hT
  have H5 : Hid (5 ≤ w.heap.size) := h5
  clear hT h5
  go_enter Ybad.func26, Ybad.ntmps26
  go_wp2_with fail
  go_at_call 34
  refine (at34_any _ _ _ _ _ _ _ _ _ _ _ _ _ _ _).mono ?_
  rintro e w1 ⟨ra, de, rfl, cra, cde, lra, lde, hbel⟩
  have HRA : Hid (cn ra = raF (G x0 x1 x2 x3 x4 x5 x6 x7 x8 x9 x10 x11 x12) (cn t)) := cra
  have HDE : Hid (cn de = deF (G x0 x1 x2 x3 x4 x5 x6 x7 x8 x9 x10 x11 x12) (cn t)) := cde
  have LRA : Hid _ := lra
  have LDE : Hid _ := lde
  have HB : Hid (Below (w.heap.size + 1) (w.alloc (.cells #[.float .f64 x0, .float .f64 x1, .float .f64 x2, .float .f64 x3, .float .f64 x4, .float .f64 x5, .float .f64 x6, .float .f64 x7, .float .f64 x8, .float .f64 x9, .float .f64 x10, .float .f64 x11, .float .f64 x12] 41)) w1) := hbel.mono (by simp)
  have H1 : Tabs w1 := ((HT.out.below ((Below.refl _ _).alloc (Nat.le_refl _) _) H5.out)).below HB.out (by have := H5.out; omega)
  have HT1 : Hid (Tabs w1) := H1
  have q1 : w1.cell? ⟨w.heap.size, 1, none⟩ = some (.float .f64 x1) := (HB.out.cell (p := ⟨w.heap.size, 1, none⟩) (by simp)).trans (by simp [go_sem])
  have q2 : w1.cell? ⟨w.heap.size, 2, none⟩ = some (.float .f64 x2) := (HB.out.cell (p := ⟨w.heap.size, 2, none⟩) (by simp)).trans (by simp [go_sem])
  have q10 : w1.cell? ⟨w.heap.size, 10, none⟩ = some (.float .f64 x10) := (HB.out.cell (p := ⟨w.heap.size, 10, none⟩) (by simp)).trans (by simp [go_sem])
  have q12 : w1.cell? ⟨w.heap.size, 12, none⟩ = some (.float .f64 x12) := (HB.out.cell (p := ⟨w.heap.size, 12, none⟩) (by simp)).trans (by simp [go_sem])
  clear cra cde lra lde hbel H1
  go_wp2_with fail
  refine upon_float (by simp) ?_
  intro r1 n1 s1
  go_wp2_with fail
  go_at_call 27
  refine (hsc ra _ LRA.out (HT1.out.below (below_drewN (Below.refl 5 _) _) (by omega))).mono ?_
  rintro e w2 ⟨sh, ch, k1, rfl, csh, cch, rfl⟩
  have Hsh : Hid (cn sh = (sc (raF (G x0 x1 x2 x3 x4 x5 x6 x7 x8 x9 x10 x11 x12) (cn t))).1) := by show cn sh = _; rw [csh, HRA.out]
  have Hch : Hid (cn ch = (sc (raF (G x0 x1 x2 x3 x4 x5 x6 x7 x8 x9 x10 x11 x12) (cn t))).2) := by show cn ch = _; rw [cch, HRA.out]
  clear csh cch
  go_wp2_with fail
  go_at_call 27
  refine (hsc de _ LDE.out (HT1.out.below (below_drewN (Below.refl 5 _) _) (by omega))).mono ?_
  rintro e w2 ⟨sd, cd, k2, rfl, csd, ccd, rfl⟩
  have Hsd : Hid (cn sd = (sc (deF (G x0 x1 x2 x3 x4 x5 x6 x7 x8 x9 x10 x11 x12) (cn t))).1) := by show cn sd = _; rw [csd, HDE.out]
  have Hcd : Hid (cn cd = (sc (deF (G x0 x1 x2 x3 x4 x5 x6 x7 x8 x9 x10 x11 x12) (cn t))).2) := by show cn cd = _; rw [ccd, HDE.out]
  clear csd ccd
  go_wp2_with fail
  refine upon_float (by simp) ?_
  intro a1 m1 t1
  go_wp2_with fail
  refine upon_float (by simp) ?_
  intro a2 m2 t2
  go_wp2_with fail
  refine upon_float (by simp) ?_
  intro a3 m3 t3
  go_wp2_with fail
  refine upon_float (by simp) ?_
  intro a4 m4 t4
  go_wp2_with fail
  refine upon_float (by simp) ?_
  intro a5 m5 t5
  go_wp2_with fail
  have HA : Hid (cn a5 = (altF sc (G x0 x1 x2 x3 x4 x5 x6 x7 x8 x9 x10 x11 x12) (cn t)).1) := by
    show cn a5 = _
    rw [t5.out, t4.out, t3.out, t2.out, t1.out, Hsd.out, Hcd.out, Hch.out]; rfl
  have Hr1 : Hid (cn r1 = fop .add (cn t) (cn x10)) := s1
  clear t1 t2 t3 t4 t5 s1 q1 q2 q10 q12 LRA LDE HRA HDE
  refine wp_region_each (fun w' => Below (w.heap.size + 1) (w.alloc (.cells #[.float .f64 x0, .float .f64 x1, .float .f64 x2, .float .f64 x3, .float .f64 x4, .float .f64 x5, .float .f64 x6, .float .f64 x7, .float .f64 x8, .float .f64 x9, .float .f64 x10, .float .f64 x11, .float .f64 x12] 41)) w') (psi26 w.heap.size (fop .add (cn t) (cn x10)) (sc (raF (G x0 x1 x2 x3 x4 x5 x6 x7 x8 x9 x10 x11 x12) (cn t))).1 (sc (raF (G x0 x1 x2 x3 x4 x5 x6 x7 x8 x9 x10 x11 x12) (cn t))).2 (sc (deF (G x0 x1 x2 x3 x4 x5 x6 x7 x8 x9 x10 x11 x12) (cn t))).1 (sc (deF (G x0 x1 x2 x3 x4 x5 x6 x7 x8 x9 x10 x11 x12) (cn t))).2 x0 x1 x2 x3 x4 x5 x6 x7 x8 x9 x10 x11 x12) mixed (below_drewN HB.out _).drew (by kernel_rfl) (by kernel_rfl) (by kernel_rfl) ?each ?fin
  case each =>
    simp only [List.forall_mem_cons]
    refine ⟨?_, ?_, ?_, ?_, ?_, ?_, ?_, ?_, ?_, ?_, ?_, ?_, ?_, ?_, ?_, ?_, ?_, ?_, ?_, ?_, ?_, ?_, ?_, ?_, ?_, ?_, ?_, ?_, ?_, ?_, fun _ h => by cases h⟩
    · intro a w1 hC hs hn
      have h1 : a.tmps.getD 2 undef = .pointer (some ⟨w.heap.size, 0, none⟩) := hs 2 (by kernel_rfl)
      clear hs hn
      unfold Oper.wp
      simp only [execOp, Act.eval, h1]
      go_simp
      exact ⟨_, rfl, rfl⟩
    · intro a w1 hC hs hn
      have h1 : a.tmps.getD 47 undef = .pointer (some ⟨w.heap.size, 1, none⟩) := hn 47 (by kernel_rfl)
      have hc : w1.cell? ⟨w.heap.size, 1, none⟩ = some (.float .f64 x1) := (hC.cell (p := ⟨w.heap.size, 1, none⟩) (by simp)).trans (by simp [go_sem])
      clear hs hn
      unfold Oper.wp
      simp only [execOp, Act.eval, h1]
      go_simp
      exact ⟨_, rfl, _, rfl, rfl⟩
    · intro a w1 hC hs hn
      have h1 : a.tmps.getD 12 undef = .float .f64 cd := hs 12 (by kernel_rfl)
      clear hs hn
      unfold Oper.wp
      simp only [execOp, Act.eval, h1]
      exact ⟨_, rfl, fun t ht => by cases ht; exact ⟨cd, rfl, Hcd.out⟩, hC⟩
    · intro a w1 hC hs hn
      obtain ⟨ra, ea, ca⟩ := hn 48 (by kernel_rfl)
      obtain ⟨rb, eb, cb⟩ := hn 49 (by kernel_rfl)
      clear hs hn
      unfold Oper.wp
      simp only [execOp, Act.eval, ea, eb]
      go_simp
      refine upon_float64 (by simp) ?_
      intro r n s l
      exact ⟨_, rfl, ⟨r, rfl, by rw [s.out, ca, cb], l.out⟩, below_drewN hC _⟩
    · intro a w1 hC hs hn
      have h1 : a.tmps.getD 2 undef = .pointer (some ⟨w.heap.size, 0, none⟩) := hs 2 (by kernel_rfl)
      clear hs hn
      unfold Oper.wp
      simp only [execOp, Act.eval, h1]
      go_simp
      exact ⟨_, rfl, rfl⟩
    · intro a w1 hC hs hn
      have h1 : a.tmps.getD 51 undef = .pointer (some ⟨w.heap.size, 2, none⟩) := hn 51 (by kernel_rfl)
      have hc : w1.cell? ⟨w.heap.size, 2, none⟩ = some (.float .f64 x2) := (hC.cell (p := ⟨w.heap.size, 2, none⟩) (by simp)).trans (by simp [go_sem])
      clear hs hn
      unfold Oper.wp
      simp only [execOp, Act.eval, h1]
      go_simp
      exact ⟨_, rfl, _, rfl, rfl⟩
    · intro a w1 hC hs hn
      have h1 : a.tmps.getD 11 undef = .float .f64 sd := hs 11 (by kernel_rfl)
      clear hs hn
      unfold Oper.wp
      simp only [execOp, Act.eval, h1]
      exact ⟨_, rfl, fun t ht => by cases ht; exact ⟨sd, rfl, Hsd.out⟩, hC⟩
    · intro a w1 hC hs hn
      obtain ⟨ra, ea, ca⟩ := hn 52 (by kernel_rfl)
      obtain ⟨rb, eb, cb⟩ := hn 53 (by kernel_rfl)
      clear hs hn
      unfold Oper.wp
      simp only [execOp, Act.eval, ea, eb]
      go_simp
      refine upon_float64 (by simp) ?_
      intro r n s l
      exact ⟨_, rfl, ⟨r, rfl, by rw [s.out, ca, cb], l.out⟩, below_drewN hC _⟩
    · intro a w1 hC hs hn
      have h1 : a.tmps.getD 10 undef = .float .f64 ch := hs 10 (by kernel_rfl)
      clear hs hn
      unfold Oper.wp
      simp only [execOp, Act.eval, h1]
      exact ⟨_, rfl, fun t ht => by cases ht; exact ⟨ch, rfl, Hch.out⟩, hC⟩
    · intro a w1 hC hs hn
      obtain ⟨ra, ea, ca, _⟩ := hn 54 (by kernel_rfl)
      obtain ⟨rb, eb, cb⟩ := hn 55 (by kernel_rfl)
      clear hs hn
      unfold Oper.wp
      simp only [execOp, Act.eval, ea, eb]
      go_simp
      refine upon_float64 (by simp) ?_
      intro r n s l
      exact ⟨_, rfl, ⟨r, rfl, by rw [s.out, ca, cb], l.out⟩, below_drewN hC _⟩
    · intro a w1 hC hs hn
      obtain ⟨ra, ea, ca, _⟩ := hn 50 (by kernel_rfl)
      obtain ⟨rb, eb, cb, _⟩ := hn 56 (by kernel_rfl)
      clear hs hn
      unfold Oper.wp
      simp only [execOp, Act.eval, ea, eb]
      go_simp
      refine upon_float64 (by simp) ?_
      intro r n s l
      exact ⟨_, rfl, ⟨r, rfl, by rw [s.out, ca, cb], l.out⟩, below_drewN hC _⟩
    · intro a w1 hC hs hn
      have h1 : a.tmps.getD 2 undef = .pointer (some ⟨w.heap.size, 0, none⟩) := hs 2 (by kernel_rfl)
      clear hs hn
      unfold Oper.wp
      simp only [execOp, Act.eval, h1]
      go_simp
      exact ⟨_, rfl, rfl⟩
    · intro a w1 hC hs hn
      have h1 : a.tmps.getD 58 undef = .pointer (some ⟨w.heap.size, 7, none⟩) := hn 58 (by kernel_rfl)
      have hc0 : w1.cell? ⟨w.heap.size, 7, none⟩ = some (.float .f64 x7) := (hC.cell (p := ⟨w.heap.size, 7, none⟩) (by simp)).trans (by simp [go_sem])
      have hc1 : w1.cell? ⟨w.heap.size, 8, none⟩ = some (.float .f64 x8) := (hC.cell (p := ⟨w.heap.size, 8, none⟩) (by simp)).trans (by simp [go_sem])
      have hc2 : w1.cell? ⟨w.heap.size, 9, none⟩ = some (.float .f64 x9) := (hC.cell (p := ⟨w.heap.size, 9, none⟩) (by simp)).trans (by simp [go_sem])
      clear hs hn
      unfold Oper.wp
      simp only [execOp, Act.eval, h1]
      go_simp
      exact ⟨_, rfl, rfl⟩
    · intro a w1 hC hs hn
      have h1 : a.tmps.getD 8 undef = .float .f64 r1 := hs 8 (by kernel_rfl)
      clear hs hn
      unfold Oper.wp
      simp only [execOp, Act.eval, h1]
      exact ⟨_, rfl, fun t ht => by cases ht; exact ⟨r1, rfl, Hr1.out⟩, hC⟩
    · intro a w1 hC hs hn
      have h1 : a.tmps.getD 59 undef = .agg #[.float .f64 x7, .float .f64 x8, .float .f64 x9] := hn 59 (by kernel_rfl)
      obtain ⟨rb, eb, cb⟩ := hn 60 (by kernel_rfl)
      clear hs hn
      unfold Oper.wp
      simp only [execOp, Act.eval, h1, eb]
      go_simp
      refine (slope_any64 _ _ _ _ _).mono ?_
      rintro e w2 ⟨r, rfl, c, l, hb⟩
      exact ⟨_, rfl, ⟨r, rfl, by rw [c, cb], l⟩, hC.trans (hb.mono (by have := hC.size; simpa using this))⟩
    · intro a w1 hC hs hn
      obtain ⟨ra, ea, ca, _⟩ := hn 57 (by kernel_rfl)
      obtain ⟨rb, eb, cb, _⟩ := hn 61 (by kernel_rfl)
      clear hs hn
      unfold Oper.wp
      simp only [execOp, Act.eval, ea, eb]
      go_simp
      refine upon_float64 (by simp) ?_
      intro r n s l
      exact ⟨_, rfl, ⟨r, rfl, by rw [s.out, ca, cb], l.out⟩, below_drewN hC _⟩
    · intro a w1 hC hs hn
      have h1 : a.tmps.getD 2 undef = .pointer (some ⟨w.heap.size, 0, none⟩) := hs 2 (by kernel_rfl)
      clear hs hn
      unfold Oper.wp
      simp only [execOp, Act.eval, h1]
      go_simp
      exact ⟨_, rfl, rfl⟩
    · intro a w1 hC hs hn
      have h1 : a.tmps.getD 63 undef = .pointer (some ⟨w.heap.size, 2, none⟩) := hn 63 (by kernel_rfl)
      have hc : w1.cell? ⟨w.heap.size, 2, none⟩ = some (.float .f64 x2) := (hC.cell (p := ⟨w.heap.size, 2, none⟩) (by simp)).trans (by simp [go_sem])
      clear hs hn
      unfold Oper.wp
      simp only [execOp, Act.eval, h1]
      go_simp
      exact ⟨_, rfl, _, rfl, rfl⟩
    · intro a w1 hC hs hn
      have h1 : a.tmps.getD 12 undef = .float .f64 cd := hs 12 (by kernel_rfl)
      clear hs hn
      unfold Oper.wp
      simp only [execOp, Act.eval, h1]
      exact ⟨_, rfl, fun t ht => by cases ht; exact ⟨cd, rfl, Hcd.out⟩, hC⟩
    · intro a w1 hC hs hn
      obtain ⟨ra, ea, ca⟩ := hn 64 (by kernel_rfl)
      obtain ⟨rb, eb, cb⟩ := hn 65 (by kernel_rfl)
      clear hs hn
      unfold Oper.wp
      simp only [execOp, Act.eval, ea, eb]
      go_simp
      refine upon_float64 (by simp) ?_
      intro r n s l
      exact ⟨_, rfl, ⟨r, rfl, by rw [s.out, ca, cb], l.out⟩, below_drewN hC _⟩
    · intro a w1 hC hs hn
      have h1 : a.tmps.getD 9 undef = .float .f64 sh := hs 9 (by kernel_rfl)
      clear hs hn
      unfold Oper.wp
      simp only [execOp, Act.eval, h1]
      exact ⟨_, rfl, fun t ht => by cases ht; exact ⟨sh, rfl, Hsh.out⟩, hC⟩
    · intro a w1 hC hs hn
      obtain ⟨ra, ea, ca, _⟩ := hn 66 (by kernel_rfl)
      obtain ⟨rb, eb, cb⟩ := hn 67 (by kernel_rfl)
      clear hs hn
      unfold Oper.wp
      simp only [execOp, Act.eval, ea, eb]
      go_simp
      refine upon_float64 (by simp) ?_
      intro r n s l
      exact ⟨_, rfl, ⟨r, rfl, by rw [s.out, ca, cb], l.out⟩, below_drewN hC _⟩
    · intro a w1 hC hs hn
      have h1 : a.tmps.getD 2 undef = .pointer (some ⟨w.heap.size, 0, none⟩) := hs 2 (by kernel_rfl)
      clear hs hn
      unfold Oper.wp
      simp only [execOp, Act.eval, h1]
      go_simp
      exact ⟨_, rfl, rfl⟩
    · intro a w1 hC hs hn
      have h1 : a.tmps.getD 69 undef = .pointer (some ⟨w.heap.size, 4, none⟩) := hn 69 (by kernel_rfl)
      have hc0 : w1.cell? ⟨w.heap.size, 4, none⟩ = some (.float .f64 x4) := (hC.cell (p := ⟨w.heap.size, 4, none⟩) (by simp)).trans (by simp [go_sem])
      have hc1 : w1.cell? ⟨w.heap.size, 5, none⟩ = some (.float .f64 x5) := (hC.cell (p := ⟨w.heap.size, 5, none⟩) (by simp)).trans (by simp [go_sem])
      have hc2 : w1.cell? ⟨w.heap.size, 6, none⟩ = some (.float .f64 x6) := (hC.cell (p := ⟨w.heap.size, 6, none⟩) (by simp)).trans (by simp [go_sem])
      clear hs hn
      unfold Oper.wp
      simp only [execOp, Act.eval, h1]
      go_simp
      exact ⟨_, rfl, rfl⟩
    · intro a w1 hC hs hn
      have h1 : a.tmps.getD 8 undef = .float .f64 r1 := hs 8 (by kernel_rfl)
      clear hs hn
      unfold Oper.wp
      simp only [execOp, Act.eval, h1]
      exact ⟨_, rfl, fun t ht => by cases ht; exact ⟨r1, rfl, Hr1.out⟩, hC⟩
    · intro a w1 hC hs hn
      have h1 : a.tmps.getD 70 undef = .agg #[.float .f64 x4, .float .f64 x5, .float .f64 x6] := hn 70 (by kernel_rfl)
      obtain ⟨rb, eb, cb⟩ := hn 71 (by kernel_rfl)
      clear hs hn
      unfold Oper.wp
      simp only [execOp, Act.eval, h1, eb]
      go_simp
      refine (slope_any64 _ _ _ _ _).mono ?_
      rintro e w2 ⟨r, rfl, c, l, hb⟩
      exact ⟨_, rfl, ⟨r, rfl, by rw [c, cb], l⟩, hC.trans (hb.mono (by have := hC.size; simpa using this))⟩
    · intro a w1 hC hs hn
      obtain ⟨rb, eb, cb, _⟩ := hn 72 (by kernel_rfl)
      clear hs hn
      unfold Oper.wp
      simp only [execOp, Act.eval, eb]
      go_simp
      refine upon_float64 (by simp) ?_
      intro r n s l
      exact ⟨_, rfl, ⟨r, rfl, by rw [s.out, cb], l.out⟩, below_drewN hC _⟩
    · intro a w1 hC hs hn
      obtain ⟨ra, ea, ca, _⟩ := hn 68 (by kernel_rfl)
      obtain ⟨rb, eb, cb, _⟩ := hn 73 (by kernel_rfl)
      clear hs hn
      unfold Oper.wp
      simp only [execOp, Act.eval, ea, eb]
      go_simp
      refine upon_float64 (by simp) ?_
      intro r n s l
      exact ⟨_, rfl, ⟨r, rfl, by rw [s.out, ca, cb], l.out⟩, below_drewN hC _⟩
    · intro a w1 hC hs hn
      obtain ⟨ra, ea, ca, _⟩ := hn 62 (by kernel_rfl)
      obtain ⟨rb, eb, cb, _⟩ := hn 74 (by kernel_rfl)
      clear hs hn
      unfold Oper.wp
      simp only [execOp, Act.eval, ea, eb]
      go_simp
      refine upon_float64 (by simp) ?_
      intro r n s l
      exact ⟨_, rfl, ⟨r, rfl, by rw [s.out, ca, cb], l.out⟩, below_drewN hC _⟩
    · intro a w1 hC hs hn
      obtain ⟨ra, ea, ca⟩ := hn 75 (by kernel_rfl)
      clear hs hn
      unfold Oper.wp
      simp only [execOp, Act.eval, ea]
      exact ⟨_, rfl, fun t ht => by cases ht; exact ⟨ra, rfl, ca⟩, hC⟩
  case fin =>
    intro f w3 hC hs hp
    obtain ⟨b5, e5, c5, _⟩ := hp 5 (by kernel_rfl)
    have e4 : f 4 = .float .f64 a5 := hs 4 (by kernel_rfl)
    have HB3 : Hid (Below w.heap.size w w3) := ((Below.refl _ _).alloc (Nat.le_refl _) _).trans (hC.mono (by omega))
    have C5 : Hid (cn b5 = (altF sc (G x0 x1 x2 x3 x4 x5 x6 x7 x8 x9 x10 x11 x12) (cn t)).2) := by show cn b5 = _; rw [c5, cn_WW]; rfl
    clear hs hp hC c5
    simp only [List.size_toArray, List.length_cons, List.length_nil, List.range, List.range.loop, List.map_cons, List.map_nil, e4, e5]
    go_wp2_with fail
    go_ret2
    exact ⟨_, _, rfl, HA.out, C5.out, HB3.out⟩
end Go.Proofs.YbulkdswqDoor
