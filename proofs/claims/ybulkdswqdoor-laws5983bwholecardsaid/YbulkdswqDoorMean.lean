import Derived.Test.YbulkdswqDoorTime
namespace Go.Proofs.YbulkdswqDoor
open Go.RowKit
set_option linter.unusedVariables false
set_option linter.unusedSimpArgs false

def polyLon (T : Nat) : Nat := (acc4 T (cn 4641885344094331057) (cn 4692011731709238419) (cn 4563761607908191410) true (cn 4692875821038174208) false true (cn 4724019000416141312) true)
def polyD (T : Nat) : Nat := (acc4 T (cn 4643947452397264576) (cn 4691393243193112004) (cn 4565159871108978594) true (cn 4692936182508552192) false true (cn 4727360073192439808) true)
def polyM (T : Nat) : Nat := (acc4 T (cn 4644997334796951604) (cn 4675180485381171545) (cn 4549798863796274038) true (cn 4717339194546978816) false false (cn 4607182418800017408) false)
def polyP (T : Nat) : Nat := (acc4 T (cn 4638952619449316095) (cn 4691941826585974506) (cn 4576340039169527341) false (cn 4679526092019597312) false true (cn 4714160055459512320) true)
def polyF (T : Nat) : Nat := (acc4 T (cn 4636263857431425261) (cn 4692044959915879729) (cn 4569992975702365727) true (cn 4704826438690275328) true true (cn 4740525177538871296) false)

/-- The five angles at T. -/
structure Five (T v1 v2 v3 v4 v5 : Nat) : Prop where
  h1 : angF 60 (radF (polyLon T)) = some v1
  h2 : angF 60 (radF (polyD T)) = some v2
  h3 : angF 60 (radF (polyM T)) = some v3
  h4 : angF 60 (radF (polyP T)) = some v4
  h5 : angF 60 (radF (polyF T)) = some v5

attribute [local go_sem] store_float in
set_option maxRecDepth 8000 in
set_option maxHeartbeats 8000000 in
theorem mean_any (d f T v1 v2 v3 v4 v5 : Nat) (w : World) (h : J2k w) (hT : centF (cn d) (cn f) = T) (h5 : Five T v1 v2 v3 v4 v5) :
    Calls Ybad.prog 10 #[.agg #[.float .f64 d, .float .f64 f]] w fun e w' => e = .returned (.agg #[.float .f64 v1, .float .f64 v2, .float .f64 v3, .float .f64 v4, .float .f64 v5]) ∧ Below w.heap.size w w' := by
  have HT : Hid _ := hT
  have H5 : Hid _ := h5
  have HJ : Hid (J2k ((w.alloc (.cells #[.float .f64 d, .float .f64 f] 26)).alloc (.cells #[.float .f64 0, .float .f64 0, .float .f64 0, .float .f64 0, .float .f64 0] 32))) := h.below (((Below.refl _ _).alloc (Nat.le_refl _) _).alloc (by simp) _) h.c
  clear h hT h5
  go_enter Ybad.func10, Ybad.ntmps10
  go_wp2_with fail
  go_at_call 22
  refine (cent_any _ _ _ HJ.out).mono ?_
  rintro e w1 ⟨t, rfl, ct, hb⟩
  have CT : Hid (cn t = T) := by show cn t = T; rw [ct, HT.out]
  have hb2 : Below (w.heap.size + 2) ((w.alloc (.cells #[.float .f64 d, .float .f64 f] 26)).alloc (.cells #[.float .f64 0, .float .f64 0, .float .f64 0, .float .f64 0, .float .f64 0] 32)) w1 := hb.mono (by simp)
  have hc : ∀ o, w1.cell? ⟨w.heap.size + 1, o, none⟩ = ((w.alloc (.cells #[.float .f64 d, .float .f64 f] 26)).alloc (.cells #[.float .f64 0, .float .f64 0, .float .f64 0, .float .f64 0, .float .f64 0] 32)).cell? ⟨w.heap.size + 1, o, none⟩ := fun o => hb2.cell (p := ⟨w.heap.size + 1, o, none⟩) (by simp)
  have hf : ∀ o, w1.frozen? ⟨w.heap.size + 1, o, none⟩ = ((w.alloc (.cells #[.float .f64 d, .float .f64 f] 26)).alloc (.cells #[.float .f64 0, .float .f64 0, .float .f64 0, .float .f64 0, .float .f64 0] 32)).frozen? ⟨w.heap.size + 1, o, none⟩ := fun o => hb2.frozen (p := ⟨w.heap.size + 1, o, none⟩) (by simp)
  have HB : Hid (Below w.heap.size w w1) := (((Below.refl _ _).alloc (Nat.le_refl _) _).alloc (by simp) _).trans (hb2.mono (by omega))
  have hz : w.heap.size + 1 < w1.heap.size := by have := hb2.size; simp at this; omega
  clear ct hb hb2
  go_wp2_with fail
  refine upon_float (by simp) ?_
  intro r1 n1 s1
  go_wp2_with fail
  refine upon_float (by simp) ?_
  intro r2 n2 s2
  go_wp2_with fail
  refine upon_float (by simp) ?_
  intro r3 n3 s3
  go_wp2_with fail
  refine upon_float (by simp) ?_
  intro r4 n4 s4
  go_wp2_with fail
  refine upon_float (by simp) ?_
  intro r5 n5 s5
  go_wp2_with fail
  refine upon_float (by simp) ?_
  intro r6 n6 s6
  go_wp2_with fail
  refine upon_float (by simp) ?_
  intro r7 n7 s7
  go_wp2_with fail
  refine upon_float (by simp) ?_
  intro r8 n8 s8
  go_wp2_with fail
  refine upon_float (by simp) ?_
  intro r9 n9 s9
  go_wp2_with fail
  refine upon_float (by simp) ?_
  intro r10 n10 s10
  go_wp2_with fail
  refine upon_float (by simp) ?_
  intro r11 n11 s11
  go_wp2_with fail
  refine upon_float (by simp) ?_
  intro r12 n12 s12
  go_wp2_with fail
  refine upon_float (by simp) ?_
  intro r13 n13 s13
  go_wp2_with fail
  refine upon_float (by simp) ?_
  intro r14 n14 s14
  go_wp2_with fail
  have P1 : Hid (cn r14 = polyLon T) := by
    show cn r14 = _
    simp only [s7.out, s8.out, s9.out, s10.out, s11.out, s12.out, s13.out, s14.out, CT.out, s1.out, s2.out, s3.out, s4.out, s5.out, s6.out]
    rfl
  clear s7 s8 s9 s10 s11 s12 s13 s14
  go_at_call 23
  refine (degrees_any _ _).mono ?_
  rintro e w2 ⟨g1, m1, rfl, cg, lg, rfl⟩
  rw [P1.out] at cg
  have E1 : g1 = radF (polyLon T) := radF_raw cg H5.out.h1
  have A1 : Hid (angF 60 g1 = some v1) := by show angF 60 g1 = _; rw [E1]; exact H5.out.h1
  have L1 : Hid (g1 < 2 ^ 64) := lg
  clear cg lg E1
  go_wp2_with fail
  go_at_call 24
  refine (reduce_any 60 _ _ _ L1.out A1.out).mono ?_
  rintro e w2 ⟨q1, rfl, rfl⟩
  go_wp2_with fail
  refine upon_float (by simp) ?_
  intro r15 n15 s15
  go_wp2_with fail
  refine upon_float (by simp) ?_
  intro r16 n16 s16
  go_wp2_with fail
  refine upon_float (by simp) ?_
  intro r17 n17 s17
  go_wp2_with fail
  refine upon_float (by simp) ?_
  intro r18 n18 s18
  go_wp2_with fail
  refine upon_float (by simp) ?_
  intro r19 n19 s19
  go_wp2_with fail
  refine upon_float (by simp) ?_
  intro r20 n20 s20
  go_wp2_with fail
  refine upon_float (by simp) ?_
  intro r21 n21 s21
  go_wp2_with fail
  refine upon_float (by simp) ?_
  intro r22 n22 s22
  go_wp2_with fail
  have P2 : Hid (cn r22 = polyD T) := by
    show cn r22 = _
    simp only [s15.out, s16.out, s17.out, s18.out, s19.out, s20.out, s21.out, s22.out, CT.out, s1.out, s2.out, s3.out, s4.out, s5.out, s6.out]
    rfl
  clear s15 s16 s17 s18 s19 s20 s21 s22
  go_at_call 23
  refine (degrees_any _ _).mono ?_
  rintro e w2 ⟨g2, m2, rfl, cg, lg, rfl⟩
  rw [P2.out] at cg
  have E2 : g2 = radF (polyD T) := radF_raw cg H5.out.h2
  have A2 : Hid (angF 60 g2 = some v2) := by show angF 60 g2 = _; rw [E2]; exact H5.out.h2
  have L2 : Hid (g2 < 2 ^ 64) := lg
  clear cg lg E2
  go_wp2_with fail
  go_at_call 24
  refine (reduce_any 60 _ _ _ L2.out A2.out).mono ?_
  rintro e w2 ⟨q2, rfl, rfl⟩
  go_wp2_with fail
  refine upon_float (by simp) ?_
  intro r23 n23 s23
  go_wp2_with fail
  refine upon_float (by simp) ?_
  intro r24 n24 s24
  go_wp2_with fail
  refine upon_float (by simp) ?_
  intro r25 n25 s25
  go_wp2_with fail
  refine upon_float (by simp) ?_
  intro r26 n26 s26
  go_wp2_with fail
  refine upon_float (by simp) ?_
  intro r27 n27 s27
  go_wp2_with fail
  refine upon_float (by simp) ?_
  intro r28 n28 s28
  go_wp2_with fail
  have P3 : Hid (cn r28 = polyM T) := by
    show cn r28 = _
    simp only [s23.out, s24.out, s25.out, s26.out, s27.out, s28.out, CT.out, s1.out, s2.out, s3.out, s4.out, s5.out, s6.out]
    rfl
  clear s23 s24 s25 s26 s27 s28
  go_at_call 23
  refine (degrees_any _ _).mono ?_
  rintro e w2 ⟨g3, m3, rfl, cg, lg, rfl⟩
  rw [P3.out] at cg
  have E3 : g3 = radF (polyM T) := radF_raw cg H5.out.h3
  have A3 : Hid (angF 60 g3 = some v3) := by show angF 60 g3 = _; rw [E3]; exact H5.out.h3
  have L3 : Hid (g3 < 2 ^ 64) := lg
  clear cg lg E3
  go_wp2_with fail
  go_at_call 24
  refine (reduce_any 60 _ _ _ L3.out A3.out).mono ?_
  rintro e w2 ⟨q3, rfl, rfl⟩
  go_wp2_with fail
  refine upon_float (by simp) ?_
  intro r29 n29 s29
  go_wp2_with fail
  refine upon_float (by simp) ?_
  intro r30 n30 s30
  go_wp2_with fail
  refine upon_float (by simp) ?_
  intro r31 n31 s31
  go_wp2_with fail
  refine upon_float (by simp) ?_
  intro r32 n32 s32
  go_wp2_with fail
  refine upon_float (by simp) ?_
  intro r33 n33 s33
  go_wp2_with fail
  refine upon_float (by simp) ?_
  intro r34 n34 s34
  go_wp2_with fail
  refine upon_float (by simp) ?_
  intro r35 n35 s35
  go_wp2_with fail
  refine upon_float (by simp) ?_
  intro r36 n36 s36
  go_wp2_with fail
  have P4 : Hid (cn r36 = polyP T) := by
    show cn r36 = _
    simp only [s29.out, s30.out, s31.out, s32.out, s33.out, s34.out, s35.out, s36.out, CT.out, s1.out, s2.out, s3.out, s4.out, s5.out, s6.out]
    rfl
  clear s29 s30 s31 s32 s33 s34 s35 s36
  go_at_call 23
  refine (degrees_any _ _).mono ?_
  rintro e w2 ⟨g4, m4, rfl, cg, lg, rfl⟩
  rw [P4.out] at cg
  have E4 : g4 = radF (polyP T) := radF_raw cg H5.out.h4
  have A4 : Hid (angF 60 g4 = some v4) := by show angF 60 g4 = _; rw [E4]; exact H5.out.h4
  have L4 : Hid (g4 < 2 ^ 64) := lg
  clear cg lg E4
  go_wp2_with fail
  go_at_call 24
  refine (reduce_any 60 _ _ _ L4.out A4.out).mono ?_
  rintro e w2 ⟨q4, rfl, rfl⟩
  go_wp2_with fail
  refine upon_float (by simp) ?_
  intro r37 n37 s37
  go_wp2_with fail
  refine upon_float (by simp) ?_
  intro r38 n38 s38
  go_wp2_with fail
  refine upon_float (by simp) ?_
  intro r39 n39 s39
  go_wp2_with fail
  refine upon_float (by simp) ?_
  intro r40 n40 s40
  go_wp2_with fail
  refine upon_float (by simp) ?_
  intro r41 n41 s41
  go_wp2_with fail
  refine upon_float (by simp) ?_
  intro r42 n42 s42
  go_wp2_with fail
  refine upon_float (by simp) ?_
  intro r43 n43 s43
  go_wp2_with fail
  refine upon_float (by simp) ?_
  intro r44 n44 s44
  go_wp2_with fail
  have P5 : Hid (cn r44 = polyF T) := by
    show cn r44 = _
    simp only [s37.out, s38.out, s39.out, s40.out, s41.out, s42.out, s43.out, s44.out, CT.out, s1.out, s2.out, s3.out, s4.out, s5.out, s6.out]
    rfl
  clear s37 s38 s39 s40 s41 s42 s43 s44
  go_at_call 23
  refine (degrees_any _ _).mono ?_
  rintro e w2 ⟨g5, m5, rfl, cg, lg, rfl⟩
  rw [P5.out] at cg
  have E5 : g5 = radF (polyF T) := radF_raw cg H5.out.h5
  have A5 : Hid (angF 60 g5 = some v5) := by show angF 60 g5 = _; rw [E5]; exact H5.out.h5
  have L5 : Hid (g5 < 2 ^ 64) := lg
  clear cg lg E5
  go_wp2_with fail
  go_at_call 24
  refine (reduce_any 60 _ _ _ L5.out A5.out).mono ?_
  rintro e w2 ⟨q5, rfl, rfl⟩
  go_wp2_with fail
  refine bodyPost_ret (v := .agg #[.float .f64 v1, .float .f64 v2, .float .f64 v3, .float .f64 v4, .float .f64 v5]) (by simp [results, Ybad.results10, go_sem, hc, hz]) rfl ⟨rfl, ?_⟩
  exact (((((below_drewN HB.out _).setCell (by simp) _).setCell (by simp) _).setCell (by simp) _).setCell (by simp) _).setCell (by simp) _
end Go.Proofs.YbulkdswqDoor
