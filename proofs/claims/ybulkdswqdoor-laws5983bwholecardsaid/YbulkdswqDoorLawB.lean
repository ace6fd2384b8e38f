import Derived.Test.YbulkdswqDoorVals
namespace Go.Proofs.YbulkdswqDoor
open Go.RowKit
set_option linter.unusedVariables false
set_option linter.unusedSimpArgs false

theorem same_ne {v : Nat} (h : v < TP) : (FloatKind.f64.format.order v v != some .eq) = false := by
  rw [order_self_ne, isNaN_rg]
  have hI := INF_lt
  have hT : TP < INF := by decide
  have r1 : rg v = v := Nat.mod_eq_of_lt (by omega)
  rw [r1]; simp; omega

attribute [local go_sem] store_float in
set_option maxRecDepth 8000 in
set_option maxHeartbeats 8000000 in
theorem lawB_0 (n : Int) (w : World) (hn0 : 0 ≤ n) (hn1 : n ≤ 255) (h0 : (n % 3 == 0) = true) (h : J2k w) (T v1 v2 v3 v4 v5 : Nat) (h5 : Five T v1 v2 v3 v4 v5) (hL : lawT (cn 4702519064147263488) (cn 4702519064147263488) = T) (hC : centF (cn 4702519064147263488) (cn 0) = T) :
    Calls Ybad.prog 3 #[.int .u8 n] w fun e w' => e = .returned (.bool true) ∧ Below w.heap.size w w' := by
  have H5 : Hid _ := h5
  have HL : Hid _ := hL
  have HC : Hid _ := hC
  have t1 : v1 < TP := angF_lt h5.h1
  have N1 := same_ne t1
  have V1 : Hid (v1 < TP) := t1
  have t2 : v2 < TP := angF_lt h5.h2
  have N2 := same_ne t2
  have V2 : Hid (v2 < TP) := t2
  have t3 : v3 < TP := angF_lt h5.h3
  have N3 := same_ne t3
  have V3 : Hid (v3 < TP) := t3
  have t4 : v4 < TP := angF_lt h5.h4
  have N4 := same_ne t4
  have V4 : Hid (v4 < TP) := t4
  have t5 : v5 < TP := angF_lt h5.h5
  have N5 := same_ne t5
  have V5 : Hid (v5 < TP) := t5
  have HJ : Hid (J2k (w.alloc (.cells #[.float .f64 0, .float .f64 0] 26))) := h.below ((Below.refl _ _).alloc (Nat.le_refl _) _) h.c
  have HJ0 : Hid (J2k w) := h
  clear h h5 hL hC t1 t2 t3 t4 t5
  go_enter Ybad.func3, Ybad.ntmps3
  go_wp2_with fail
  go_at_call 5
  refine (j2000_any _ HJ.out).mono ?_
  rintro e w1 ⟨rfl, hb⟩
  have hb1 : Below (w.heap.size + 1) (w.alloc (.cells #[.float .f64 0, .float .f64 0] 26)) w1 := hb.mono (by simp)
  have HJ1 : Hid (J2k w1) := HJ.out.below hb1 (by omega)
  have hc : ∀ o, w1.cell? ⟨w.heap.size, o, none⟩ = (w.alloc (.cells #[.float .f64 0, .float .f64 0] 26)).cell? ⟨w.heap.size, o, none⟩ := fun o => hb1.cell (p := ⟨w.heap.size, o, none⟩) (by simp)
  have hf : ∀ o, w1.frozen? ⟨w.heap.size, o, none⟩ = (w.alloc (.cells #[.float .f64 0, .float .f64 0] 26)).frozen? ⟨w.heap.size, o, none⟩ := fun o => hb1.frozen (p := ⟨w.heap.size, o, none⟩) (by simp)
  have HB : Hid (Below w.heap.size w w1) := ((Below.refl _ _).alloc (Nat.le_refl _) _).trans (hb1.mono (by simp))
  have hz : w.heap.size < w1.heap.size := by have := hb1.size; simp at this; omega
  clear hb hb1
  go_wp2_with (go_at_call 8; refine (floor_any _ _ _ floor0).mono ?_; rintro e w' ⟨rfl, hw⟩; rw [hw]; clear hw)
  refine upon_float (by simp) ?_
  intro r1 n1 s1
  go_wp2_with fail
  refine upon_float (by simp) ?_
  intro r2 n2 s2
  go_wp2_with fail
  refine upon_float (by simp) ?_
  intro r3 n3 s3
  go_wp2_with fail
  refine upon_float (by simp) ?_
  intro r4 n4 s4
  go_wp2_with fail
  have CT : Hid (cn r4 = T) := by
    show cn r4 = T
    rw [s4.out, s3.out, s2.out, s1.out, ← HL.out, cn_C, cn_J0]
    rfl
  clear s1 s2 s3 s4
  go_at_call 9
  refine (bangle_any 60 _ _ _ _ _ _ _ _ _ _ v1 _ (by rw [CT.out]; exact H5.out.h1)).mono ?_
  rintro e w' ⟨k1, rfl, rfl⟩
  go_wp2_with fail
  go_at_call 9
  refine (bangle_any 60 _ _ _ _ _ _ _ _ _ _ v2 _ (by rw [CT.out]; exact H5.out.h2)).mono ?_
  rintro e w' ⟨k2, rfl, rfl⟩
  go_wp2_with fail
  go_at_call 9
  refine (bangle_any 60 _ _ _ _ _ _ _ _ _ _ v3 _ (by rw [CT.out]; exact H5.out.h3)).mono ?_
  rintro e w' ⟨k3, rfl, rfl⟩
  go_wp2_with fail
  go_at_call 9
  refine (bangle_any 60 _ _ _ _ _ _ _ _ _ _ v4 _ (by rw [CT.out]; exact H5.out.h4)).mono ?_
  rintro e w' ⟨k4, rfl, rfl⟩
  go_wp2_with fail
  go_at_call 9
  refine (bangle_any 60 _ _ _ _ _ _ _ _ _ _ v5 _ (by rw [CT.out]; exact H5.out.h5)).mono ?_
  rintro e w' ⟨k5, rfl, rfl⟩
  go_wp2_with fail
  go_at_call 10
  have BW : Hid (Below w.heap.size w (((w1.setCell ⟨w.heap.size, 0, none⟩ (.float .f64 4702519064147263488)).setCell ⟨w.heap.size, 1, none⟩ (.float .f64 0)).drewN (n1 + n2 + n3 + n4 + k1 + k2 + k3 + k4 + k5))) := below_drewN ((HB.out.setCell (Nat.le_refl _) _).setCell (Nat.le_refl _) _) _
  refine (mean_any _ _ T v1 v2 v3 v4 v5 _ (HJ0.out.below BW.out HJ0.out.c) HC.out H5.out).mono ?_
  rintro e w2 ⟨rfl, hb⟩
  have HB2 : Hid (Below w.heap.size w w2) := BW.out.trans (hb.mono BW.out.size)
  have hz2 : w.heap.size ≤ w2.heap.size := HB2.out.size
  clear hb hc hf hz
  go_wp2_with (go_at_call 11; refine (in_any _ _ (by first | exact V1.out | exact V2.out | exact V3.out | exact V4.out | exact V5.out)).mono ?_; rintro e w' ⟨rfl, hw⟩; rw [hw]; clear hw)
  go_ret
  exact ⟨rfl, HB2.out.alloc hz2 _⟩

attribute [local go_sem] store_float in
set_option maxRecDepth 8000 in
set_option maxHeartbeats 8000000 in
theorem lawB_1 (n : Int) (w : World) (hn0 : 0 ≤ n) (hn1 : n ≤ 255) (h0 : (n % 3 == 0) = false) (h1 : (n % 3 == 1) = true) (h : J2k w) (T v1 v2 v3 v4 v5 : Nat) (h5 : Five T v1 v2 v3 v4 v5) (hL : lawT (cn 4702440627980256412) (cn 4702440627307020288) = T) (hC : centF (cn 4702440627307020288) (cn 4599319133853581312) = T) :
    Calls Ybad.prog 3 #[.int .u8 n] w fun e w' => e = .returned (.bool true) ∧ Below w.heap.size w w' := by
  have H5 : Hid _ := h5
  have HL : Hid _ := hL
  have HC : Hid _ := hC
  have t1 : v1 < TP := angF_lt h5.h1
  have N1 := same_ne t1
  have V1 : Hid (v1 < TP) := t1
  have t2 : v2 < TP := angF_lt h5.h2
  have N2 := same_ne t2
  have V2 : Hid (v2 < TP) := t2
  have t3 : v3 < TP := angF_lt h5.h3
  have N3 := same_ne t3
  have V3 : Hid (v3 < TP) := t3
  have t4 : v4 < TP := angF_lt h5.h4
  have N4 := same_ne t4
  have V4 : Hid (v4 < TP) := t4
  have t5 : v5 < TP := angF_lt h5.h5
  have N5 := same_ne t5
  have V5 : Hid (v5 < TP) := t5
  have HJ : Hid (J2k (w.alloc (.cells #[.float .f64 0, .float .f64 0] 26))) := h.below ((Below.refl _ _).alloc (Nat.le_refl _) _) h.c
  have HJ0 : Hid (J2k w) := h
  clear h h5 hL hC t1 t2 t3 t4 t5
  go_enter Ybad.func3, Ybad.ntmps3
  go_wp2_with fail
  go_at_call 6
  refine (b1900_any _).mono ?_
  rintro e w1 ⟨f, rfl, cf, hb⟩
  rw [frac1] at cf
  have hfe : f = 4599319133853581312 := notnan cf (by decide)
  have HFE : Hid (f = 4599319133853581312) := hfe
  clear cf hfe
  have hb1 : Below (w.heap.size + 1) (w.alloc (.cells #[.float .f64 0, .float .f64 0] 26)) w1 := hb.mono (by simp)
  have HJ1 : Hid (J2k w1) := HJ.out.below hb1 (by omega)
  have hc : ∀ o, w1.cell? ⟨w.heap.size, o, none⟩ = (w.alloc (.cells #[.float .f64 0, .float .f64 0] 26)).cell? ⟨w.heap.size, o, none⟩ := fun o => hb1.cell (p := ⟨w.heap.size, o, none⟩) (by simp)
  have hf : ∀ o, w1.frozen? ⟨w.heap.size, o, none⟩ = (w.alloc (.cells #[.float .f64 0, .float .f64 0] 26)).frozen? ⟨w.heap.size, o, none⟩ := fun o => hb1.frozen (p := ⟨w.heap.size, o, none⟩) (by simp)
  have HB : Hid (Below w.heap.size w w1) := ((Below.refl _ _).alloc (Nat.le_refl _) _).trans (hb1.mono (by simp))
  have hz : w.heap.size < w1.heap.size := by have := hb1.size; simp at this; omega
  clear hb hb1
  go_wp2_with (go_at_call 8; refine (floor_any _ _ _ floor1).mono ?_; rintro e w' ⟨rfl, hw⟩; rw [hw]; clear hw)
  refine upon_float (by simp) ?_
  intro r1 n1 s1
  go_wp2_with fail
  refine upon_float (by simp) ?_
  intro r2 n2 s2
  go_wp2_with fail
  refine upon_float (by simp) ?_
  intro r3 n3 s3
  go_wp2_with fail
  refine upon_float (by simp) ?_
  intro r4 n4 s4
  go_wp2_with fail
  have CT : Hid (cn r4 = T) := by
    show cn r4 = T
    rw [s4.out, s3.out, s2.out, s1.out, ← HL.out, cn_C, cn_J0]
    rfl
  clear s1 s2 s3 s4
  go_at_call 9
  refine (bangle_any 60 _ _ _ _ _ _ _ _ _ _ v1 _ (by rw [CT.out]; exact H5.out.h1)).mono ?_
  rintro e w' ⟨k1, rfl, rfl⟩
  go_wp2_with fail
  go_at_call 9
  refine (bangle_any 60 _ _ _ _ _ _ _ _ _ _ v2 _ (by rw [CT.out]; exact H5.out.h2)).mono ?_
  rintro e w' ⟨k2, rfl, rfl⟩
  go_wp2_with fail
  go_at_call 9
  refine (bangle_any 60 _ _ _ _ _ _ _ _ _ _ v3 _ (by rw [CT.out]; exact H5.out.h3)).mono ?_
  rintro e w' ⟨k3, rfl, rfl⟩
  go_wp2_with fail
  go_at_call 9
  refine (bangle_any 60 _ _ _ _ _ _ _ _ _ _ v4 _ (by rw [CT.out]; exact H5.out.h4)).mono ?_
  rintro e w' ⟨k4, rfl, rfl⟩
  go_wp2_with fail
  go_at_call 9
  refine (bangle_any 60 _ _ _ _ _ _ _ _ _ _ v5 _ (by rw [CT.out]; exact H5.out.h5)).mono ?_
  rintro e w' ⟨k5, rfl, rfl⟩
  go_wp2_with fail
  go_at_call 10
  have BW : Hid (Below w.heap.size w (((w1.setCell ⟨w.heap.size, 0, none⟩ (.float .f64 4702440627307020288)).setCell ⟨w.heap.size, 1, none⟩ (.float .f64 f)).drewN (n1 + n2 + n3 + n4 + k1 + k2 + k3 + k4 + k5))) := below_drewN ((HB.out.setCell (Nat.le_refl _) _).setCell (Nat.le_refl _) _) _
  refine (mean_any _ _ T v1 v2 v3 v4 v5 _ (HJ0.out.below BW.out HJ0.out.c) (by rw [HFE.out]; exact HC.out) H5.out).mono ?_
  rintro e w2 ⟨rfl, hb⟩
  have HB2 : Hid (Below w.heap.size w w2) := BW.out.trans (hb.mono BW.out.size)
  have hz2 : w.heap.size ≤ w2.heap.size := HB2.out.size
  clear hb hc hf hz
  go_wp2_with (go_at_call 11; refine (in_any _ _ (by first | exact V1.out | exact V2.out | exact V3.out | exact V4.out | exact V5.out)).mono ?_; rintro e w' ⟨rfl, hw⟩; rw [hw]; clear hw)
  go_ret
  exact ⟨rfl, HB2.out.alloc hz2 _⟩

attribute [local go_sem] store_float in
set_option maxRecDepth 8000 in
set_option maxHeartbeats 8000000 in
theorem lawB_2 (n : Int) (w : World) (hn0 : 0 ≤ n) (hn1 : n ≤ 255) (h0 : (n % 3 == 0) = false) (h1 : (n % 3 == 1) = false) (h : J2k w) (T v1 v2 v3 v4 v5 : Nat) (h5 : Five T v1 v2 v3 v4 v5) (hL : lawT (cn 4702479845562859389) (cn 4702479844653400064) = T) (hC : centF (cn 4702479844653400064) (cn 4601300717687275520) = T) :
    Calls Ybad.prog 3 #[.int .u8 n] w fun e w' => e = .returned (.bool true) ∧ Below w.heap.size w w' := by
  have H5 : Hid _ := h5
  have HL : Hid _ := hL
  have HC : Hid _ := hC
  have t1 : v1 < TP := angF_lt h5.h1
  have N1 := same_ne t1
  have V1 : Hid (v1 < TP) := t1
  have t2 : v2 < TP := angF_lt h5.h2
  have N2 := same_ne t2
  have V2 : Hid (v2 < TP) := t2
  have t3 : v3 < TP := angF_lt h5.h3
  have N3 := same_ne t3
  have V3 : Hid (v3 < TP) := t3
  have t4 : v4 < TP := angF_lt h5.h4
  have N4 := same_ne t4
  have V4 : Hid (v4 < TP) := t4
  have t5 : v5 < TP := angF_lt h5.h5
  have N5 := same_ne t5
  have V5 : Hid (v5 < TP) := t5
  have HJ : Hid (J2k (w.alloc (.cells #[.float .f64 0, .float .f64 0] 26))) := h.below ((Below.refl _ _).alloc (Nat.le_refl _) _) h.c
  have HJ0 : Hid (J2k w) := h
  clear h h5 hL hC t1 t2 t3 t4 t5
  go_enter Ybad.func3, Ybad.ntmps3
  go_wp2_with fail
  go_at_call 7
  refine (b1950_any _).mono ?_
  rintro e w1 ⟨f, rfl, cf, hb⟩
  rw [frac2] at cf
  have hfe : f = 4601300717687275520 := notnan cf (by decide)
  have HFE : Hid (f = 4601300717687275520) := hfe
  clear cf hfe
  have hb1 : Below (w.heap.size + 1) (w.alloc (.cells #[.float .f64 0, .float .f64 0] 26)) w1 := hb.mono (by simp)
  have HJ1 : Hid (J2k w1) := HJ.out.below hb1 (by omega)
  have hc : ∀ o, w1.cell? ⟨w.heap.size, o, none⟩ = (w.alloc (.cells #[.float .f64 0, .float .f64 0] 26)).cell? ⟨w.heap.size, o, none⟩ := fun o => hb1.cell (p := ⟨w.heap.size, o, none⟩) (by simp)
  have hf : ∀ o, w1.frozen? ⟨w.heap.size, o, none⟩ = (w.alloc (.cells #[.float .f64 0, .float .f64 0] 26)).frozen? ⟨w.heap.size, o, none⟩ := fun o => hb1.frozen (p := ⟨w.heap.size, o, none⟩) (by simp)
  have HB : Hid (Below w.heap.size w w1) := ((Below.refl _ _).alloc (Nat.le_refl _) _).trans (hb1.mono (by simp))
  have hz : w.heap.size < w1.heap.size := by have := hb1.size; simp at this; omega
  clear hb hb1
  go_wp2_with (go_at_call 8; refine (floor_any _ _ _ floor2).mono ?_; rintro e w' ⟨rfl, hw⟩; rw [hw]; clear hw)
  refine upon_float (by simp) ?_
  intro r1 n1 s1
  go_wp2_with fail
  refine upon_float (by simp) ?_
  intro r2 n2 s2
  go_wp2_with fail
  refine upon_float (by simp) ?_
  intro r3 n3 s3
  go_wp2_with fail
  refine upon_float (by simp) ?_
  intro r4 n4 s4
  go_wp2_with fail
  have CT : Hid (cn r4 = T) := by
    show cn r4 = T
    rw [s4.out, s3.out, s2.out, s1.out, ← HL.out, cn_C, cn_J0]
    rfl
  clear s1 s2 s3 s4
  go_at_call 9
  refine (bangle_any 60 _ _ _ _ _ _ _ _ _ _ v1 _ (by rw [CT.out]; exact H5.out.h1)).mono ?_
  rintro e w' ⟨k1, rfl, rfl⟩
  go_wp2_with fail
  go_at_call 9
  refine (bangle_any 60 _ _ _ _ _ _ _ _ _ _ v2 _ (by rw [CT.out]; exact H5.out.h2)).mono ?_
  rintro e w' ⟨k2, rfl, rfl⟩
  go_wp2_with fail
  go_at_call 9
  refine (bangle_any 60 _ _ _ _ _ _ _ _ _ _ v3 _ (by rw [CT.out]; exact H5.out.h3)).mono ?_
  rintro e w' ⟨k3, rfl, rfl⟩
  go_wp2_with fail
  go_at_call 9
  refine (bangle_any 60 _ _ _ _ _ _ _ _ _ _ v4 _ (by rw [CT.out]; exact H5.out.h4)).mono ?_
  rintro e w' ⟨k4, rfl, rfl⟩
  go_wp2_with fail
  go_at_call 9
  refine (bangle_any 60 _ _ _ _ _ _ _ _ _ _ v5 _ (by rw [CT.out]; exact H5.out.h5)).mono ?_
  rintro e w' ⟨k5, rfl, rfl⟩
  go_wp2_with fail
  go_at_call 10
  have BW : Hid (Below w.heap.size w (((w1.setCell ⟨w.heap.size, 0, none⟩ (.float .f64 4702479844653400064)).setCell ⟨w.heap.size, 1, none⟩ (.float .f64 f)).drewN (n1 + n2 + n3 + n4 + k1 + k2 + k3 + k4 + k5))) := below_drewN ((HB.out.setCell (Nat.le_refl _) _).setCell (Nat.le_refl _) _) _
  refine (mean_any _ _ T v1 v2 v3 v4 v5 _ (HJ0.out.below BW.out HJ0.out.c) (by rw [HFE.out]; exact HC.out) H5.out).mono ?_
  rintro e w2 ⟨rfl, hb⟩
  have HB2 : Hid (Below w.heap.size w w2) := BW.out.trans (hb.mono BW.out.size)
  have hz2 : w.heap.size ≤ w2.heap.size := HB2.out.size
  clear hb hc hf hz
  go_wp2_with (go_at_call 11; refine (in_any _ _ (by first | exact V1.out | exact V2.out | exact V3.out | exact V4.out | exact V5.out)).mono ?_; rintro e w' ⟨rfl, hw⟩; rw [hw]; clear hw)
  go_ret
  exact ⟨rfl, HB2.out.alloc hz2 _⟩

/-- The law, whatever sel. -/
theorem lawB_any (n : Int) (w : World) (hn0 : 0 ≤ n) (hn1 : n ≤ 255) (h : J2k w) : Calls Ybad.prog 3 #[.int .u8 n] w fun e w' => e = .returned (.bool true) ∧ Below w.heap.size w w' := by
  by_cases h0 : n % 3 = 0
  · exact lawB_0 n w hn0 hn1 (by simp [h0]) h _ _ _ _ _ _ five0 lawT0 cent0
  · by_cases h1 : n % 3 = 1
    · exact lawB_1 n w hn0 hn1 (by simp [h0]) (by simp [h1]) h _ _ _ _ _ _ five1 lawT1 cent1
    · exact lawB_2 n w hn0 hn1 (by simp [h0]) (by simp [h1]) h _ _ _ _ _ _ five2 lawT2 cent2
end Go.Proofs.YbulkdswqDoor
