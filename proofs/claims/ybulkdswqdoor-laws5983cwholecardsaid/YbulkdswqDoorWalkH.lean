import Derived.Test.YbulkdswqDoorWalkG
namespace Go.Proofs.YbulkdswqDoor
open Go.RowKit Go.Op
set_option linter.unusedVariables false
set_option linter.unusedSimpArgs false

set_option maxRecDepth 8000 in
set_option maxHeartbeats 4000000 in
theorem calt_any {sc : Nat → Nat × Nat} (hsc : Sc sc) (x0 x1 x2 x3 x4 x5 x6 x7 x8 x9 x10 x11 x12 t : Nat) (w : World) (hT : Tabs w) (h5 : 5 ≤ w.heap.size) :
    Calls Ybad.prog 14 #[.agg #[.float .f64 x0, .float .f64 x1, .float .f64 x2, .float .f64 x3, .float .f64 x4, .float .f64 x5, .float .f64 x6, .float .f64 x7, .float .f64 x8, .float .f64 x9, .float .f64 x10, .float .f64 x11, .float .f64 x12], .float .f64 t] w fun e w' => ∃ a b, e = .returned (.tuple #[.float .f64 a, .float .f64 b]) ∧ cn a = (altF sc (G x0 x1 x2 x3 x4 x5 x6 x7 x8 x9 x10 x11 x12) (cn t)).1 ∧ cn b = (altF sc (G x0 x1 x2 x3 x4 x5 x6 x7 x8 x9 x10 x11 x12) (cn t)).2 ∧ Below w.heap.size w w' := by
  have HT : Hid (Tabs (w.alloc (.cells #[.float .f64 x0, .float .f64 x1, .float .f64 x2, .float .f64 x3, .float .f64 x4, .float .f64 x5, .float .f64 x6, .float .f64 x7, .float .f64 x8, .float .f64 x9, .float .f64 x10, .float .f64 x11, .float .f64 x12] 38))) := hT.below ((Below.refl _ _).alloc (Nat.le_refl _) _) h5
  have HB : Hid (Below w.heap.size w (w.alloc (.cells #[.float .f64 x0, .float .f64 x1, .float .f64 x2, .float .f64 x3, .float .f64 x4, .float .f64 x5, .float .f64 x6, .float .f64 x7, .float .f64 x8, .float .f64 x9, .float .f64 x10, .float .f64 x11, .float .f64 x12] 38))) := (Below.refl _ _).alloc (Nat.le_refl _) _
  clear hT h5
  go_enter Ybad.func14, Ybad.ntmps14
  go_wp2_with fail
  refine upon_float (by simp) ?_
  intro r1 n1 s1
  go_wp2_with fail
  refine upon_float (by simp) ?_
  intro r2 n2 s2
  go_wp2_with fail
  refine upon_float (by simp) ?_
  intro r3 n3 s3
  go_wp2_with fail
  refine upon_float (by simp) ?_
  intro r4 n4 s4
  go_wp2_with fail
  refine upon_float (by simp) ?_
  intro r5 n5 s5
  go_wp2_with fail
  refine upon_float (by simp) ?_
  intro r6 n6 s6
  go_wp2_with fail
  refine upon_float (by simp) ?_
  intro r7 n7 s7
  go_wp2_with fail
  refine upon_float (by simp) ?_
  intro r8 n8 s8
  go_wp2_with fail
  refine upon_float (by simp) ?_
  intro r9 n9 s9
  go_wp2_with fail
  refine upon_float (by simp) ?_
  intro r10 n10 s10
  go_wp2_with fail
  refine upon_float (by simp) ?_
  intro r11 n11 s11
  go_wp2_with fail
  refine upon_float (by simp) ?_
  intro r12 n12 s12
  go_wp2_with fail
  refine upon_float (by simp) ?_
  intro r13 n13 s13
  go_wp2_with fail
  refine upon_float (by simp) ?_
  intro r14 n14 s14
  go_wp2_with fail
  refine upon_float (by simp) ?_
  intro r15 n15 s15
  go_wp2_with fail
  refine upon_float (by simp) ?_
  intro r16 n16 s16
  go_wp2_with fail
  refine upon_float (by simp) ?_
  intro r17 n17 s17
  go_wp2_with fail
  refine upon_float (by simp) ?_
  intro r18 n18 s18
  go_wp2_with fail
  refine upon_float (by simp) ?_
  intro r19 n19 s19
  go_wp2_with fail
  refine upon_float (by simp) ?_
  intro r20 n20 s20
  go_wp2_with fail
  refine upon_float (by simp) ?_
  intro r21 n21 s21
  go_wp2_with fail
  refine upon_float (by simp) ?_
  intro r22 n22 s22
  go_wp2_with fail
  refine upon_float64 (by simp) ?_
  intro r23 n23 s23 l23
  go_wp2_with fail
  refine upon_float (by simp) ?_
  intro r24 n24 s24
  go_wp2_with fail
  refine upon_float (by simp) ?_
  intro r25 n25 s25
  go_wp2_with fail
  refine upon_float (by simp) ?_
  intro r26 n26 s26
  go_wp2_with fail
  refine upon_float (by simp) ?_
  intro r27 n27 s27
  go_wp2_with fail
  refine upon_float (by simp) ?_
  intro r28 n28 s28
  go_wp2_with fail
  refine upon_float (by simp) ?_
  intro r29 n29 s29
  go_wp2_with fail
  refine upon_float (by simp) ?_
  intro r30 n30 s30
  go_wp2_with fail
  refine upon_float64 (by simp) ?_
  intro r31 n31 s31 l31
  go_wp2_with fail
  have HRA : Hid (cn r31 = raF (G x0 x1 x2 x3 x4 x5 x6 x7 x8 x9 x10 x11 x12) (cn t)) := by
    show cn r31 = _
    simp only [s1.out, s2.out, s3.out, s4.out, s5.out, s6.out, s7.out, s8.out, s9.out, s10.out, s11.out, s12.out, s13.out, s14.out, s15.out, s16.out, s17.out, s18.out, s19.out, s20.out, s21.out, s22.out, s23.out, s24.out, s25.out, s26.out, s27.out, s28.out, s29.out, s30.out, s31.out, cn_two, cn_WW]; rfl
  have HDE : Hid (cn r23 = deF (G x0 x1 x2 x3 x4 x5 x6 x7 x8 x9 x10 x11 x12) (cn t)) := by
    show cn r23 = _
    simp only [s1.out, s2.out, s3.out, s4.out, s5.out, s6.out, s7.out, s8.out, s9.out, s10.out, s11.out, s12.out, s13.out, s14.out, s15.out, s16.out, s17.out, s18.out, s19.out, s20.out, s21.out, s22.out, s23.out, s24.out, s25.out, s26.out, s27.out, s28.out, s29.out, s30.out, s31.out, cn_two, cn_WW]; rfl
  have HSR : Hid (cn r14 = slF (cn x4) (cn x5) (cn x6) (fop .add (cn t) (cn x10))) := by
    show cn r14 = _
    simp only [s1.out, s2.out, s3.out, s4.out, s5.out, s6.out, s7.out, s8.out, s9.out, s10.out, s11.out, s12.out, s13.out, s14.out, s15.out, s16.out, s17.out, s18.out, s19.out, s20.out, s21.out, s22.out, s23.out, s24.out, s25.out, s26.out, s27.out, s28.out, s29.out, s30.out, s31.out, cn_two, cn_WW]; rfl
  have HSD : Hid (cn r27 = slF (cn x7) (cn x8) (cn x9) (fop .add (cn t) (cn x10))) := by
    show cn r27 = _
    simp only [s1.out, s2.out, s3.out, s4.out, s5.out, s6.out, s7.out, s8.out, s9.out, s10.out, s11.out, s12.out, s13.out, s14.out, s15.out, s16.out, s17.out, s18.out, s19.out, s20.out, s21.out, s22.out, s23.out, s24.out, s25.out, s26.out, s27.out, s28.out, s29.out, s30.out, s31.out, cn_two, cn_WW]; rfl
  clear s1 s2 s3 s4 s5 s6 s7 s8 s9 s10 s11 s12 s13 s14 s15 s16 s17 s18 s19 s20 s21 s22 s23 s24 s25 s26 s27 s28 s29 s30 s31
  go_at_call 27
  refine (hsc r31 _ l31.out (HT.out.below (below_drewN (Below.refl 5 _) _) (by omega))).mono ?_
  rintro e w2 ⟨sh, ch, k1, rfl, csh, cch, rfl⟩
  have Hsh : Hid (cn sh = (sc (raF (G x0 x1 x2 x3 x4 x5 x6 x7 x8 x9 x10 x11 x12) (cn t))).1) := by show cn sh = _; rw [csh, HRA.out]
  have Hch : Hid (cn ch = (sc (raF (G x0 x1 x2 x3 x4 x5 x6 x7 x8 x9 x10 x11 x12) (cn t))).2) := by show cn ch = _; rw [cch, HRA.out]
  clear csh cch
  go_wp2_with fail
  go_at_call 27
  refine (hsc r23 _ l23.out (HT.out.below (below_drewN (Below.refl 5 _) _) (by omega))).mono ?_
  rintro e w2 ⟨sd, cd, k2, rfl, csd, ccd, rfl⟩
  have Hsd : Hid (cn sd = (sc (deF (G x0 x1 x2 x3 x4 x5 x6 x7 x8 x9 x10 x11 x12) (cn t))).1) := by show cn sd = _; rw [csd, HDE.out]
  have Hcd : Hid (cn cd = (sc (deF (G x0 x1 x2 x3 x4 x5 x6 x7 x8 x9 x10 x11 x12) (cn t))).2) := by show cn cd = _; rw [ccd, HDE.out]
  clear csd ccd
  go_wp2_with fail
  refine upon_float (by simp) ?_
  intro r32 n32 s32
  go_wp2_with fail
  refine upon_float (by simp) ?_
  intro r33 n33 s33
  go_wp2_with fail
  refine upon_float (by simp) ?_
  intro r34 n34 s34
  go_wp2_with fail
  refine upon_float (by simp) ?_
  intro r35 n35 s35
  go_wp2_with fail
  refine upon_float (by simp) ?_
  intro r36 n36 s36
  go_wp2_with fail
  refine upon_float (by simp) ?_
  intro r37 n37 s37
  go_wp2_with fail
  refine upon_float (by simp) ?_
  intro r38 n38 s38
  go_wp2_with fail
  refine upon_float (by simp) ?_
  intro r39 n39 s39
  go_wp2_with fail
  refine upon_float (by simp) ?_
  intro r40 n40 s40
  go_wp2_with fail
  refine upon_float (by simp) ?_
  intro r41 n41 s41
  go_wp2_with fail
  refine upon_float (by simp) ?_
  intro r42 n42 s42
  go_wp2_with fail
  refine upon_float (by simp) ?_
  intro r43 n43 s43
  go_wp2_with fail
  refine upon_float (by simp) ?_
  intro r44 n44 s44
  go_wp2_with fail
  refine upon_float (by simp) ?_
  intro r45 n45 s45
  go_wp2_with fail
  refine upon_float (by simp) ?_
  intro r46 n46 s46
  go_wp2_with fail
  go_ret2
  refine ⟨_, _, rfl, ?_, ?_, below_drewN HB.out _⟩
  · simp only [s32.out, s33.out, s34.out, s35.out, s36.out, s37.out, s38.out, s39.out, s40.out, s41.out, s42.out, s43.out, s44.out, s45.out, s46.out, Hsd.out, Hcd.out, Hch.out, Hsh.out, HSR.out, HSD.out, cn_WW]; rfl
  · simp only [s32.out, s33.out, s34.out, s35.out, s36.out, s37.out, s38.out, s39.out, s40.out, s41.out, s42.out, s43.out, s44.out, s45.out, s46.out, Hsd.out, Hcd.out, Hch.out, Hsh.out, HSR.out, HSD.out, cn_WW]; rfl
end Go.Proofs.YbulkdswqDoor
