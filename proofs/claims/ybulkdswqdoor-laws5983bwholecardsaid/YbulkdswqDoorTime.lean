import Derived.Test.YbulkdswqDoorBang
namespace Go.Proofs.YbulkdswqDoor
open Go.RowKit
set_option linter.unusedVariables false
set_option linter.unusedSimpArgs false

def J0 : Nat := 4702519064147263488
def C365 : Nat := 4675252771358769152
def Floors (x d : Nat) : Prop := ∀ w, (callFunc 19 #[.float .f64 x]).run Ybad.prog w = .ok (.value (.float .f64 d)) w
theorem floor0 : Floors 4702519064147263488 4702519064147263488 := fun w => by
  rw [run_callFunc_extern (P := Ybad.prog) (e := Extern.MathFloor.toIntegral "math.archFloor" .down) Ybad.func19 (by kernel_rfl) (by kernel_rfl) (by kernel_rfl) (by kernel_rfl)]
  kernel_rfl
theorem floor1 : Floors 4702440627980256412 4702440627307020288 := fun w => by
  rw [run_callFunc_extern (P := Ybad.prog) (e := Extern.MathFloor.toIntegral "math.archFloor" .down) Ybad.func19 (by kernel_rfl) (by kernel_rfl) (by kernel_rfl) (by kernel_rfl)]
  kernel_rfl
theorem floor2 : Floors 4702479845562859389 4702479844653400064 := fun w => by
  rw [run_callFunc_extern (P := Ybad.prog) (e := Extern.MathFloor.toIntegral "math.archFloor" .down) Ybad.func19 (by kernel_rfl) (by kernel_rfl) (by kernel_rfl) (by kernel_rfl)]
  kernel_rfl

/-- The variable j2000 lies as the text lays it. -/
structure J2k (w : World) : Prop where
  a : w.cell? ⟨0, 0, none⟩ = some (.float .f64 4702519064147263488)
  b : w.cell? ⟨0, 1, none⟩ = some (.float .f64 0)
  c : 0 < w.heap.size
theorem J2k.below {n : Nat} {w w' : World} (hb : Below n w w') (hn : 0 < n) (h : J2k w) : J2k w' :=
  ⟨(hb.cell (p := ⟨0, 0, none⟩) hn).trans h.a, (hb.cell (p := ⟨0, 1, none⟩) hn).trans h.b, by have := hb.size; have := h.c; omega⟩

set_option maxHeartbeats 1000000 in
theorem floor_any (x d : Nat) (w : World) (h : Floors x d) : Calls Ybad.prog 8 #[.float .f64 x] w fun e w' => e = .returned (.float .f64 d) ∧ w' = w := by
  unfold Floors at h
  go_enter Ybad.func8, Ybad.ntmps8
  go_wp2_with fail
  go_ret
  exact ⟨rfl, rfl⟩

attribute [local go_sem] store_float in
set_option maxHeartbeats 1000000 in
theorem split_any (x d : Nat) (w : World) (h : Floors x d) : Calls Ybad.prog 18 #[.float .f64 x] w fun e w' => ∃ f, e = .returned (.agg #[.float .f64 d, .float .f64 f]) ∧ cn f = fop .sub (cn x) (cn d) ∧ Below w.heap.size w w' := by
  have H : Hid (Floors x d) := h
  clear h
  go_enter Ybad.func18, Ybad.ntmps18
  go_wp2_with (go_at_call 8; refine (floor_any _ _ _ H.out).mono ?_; rintro e w' ⟨rfl, hw⟩; rw [hw]; clear hw)
  refine upon_float (by simp) ?_
  intro r n s
  go_wp2_with fail
  refine bodyPost_ret (v := .agg #[.float .f64 d, .float .f64 r]) (by simp [results, Ybad.results18, go_sem]) rfl ⟨r, rfl, s.out, ?_⟩
  exact ((below_drewN ((Below.refl _ _).alloc (Nat.le_refl _) _) _).setCell (Nat.le_refl _) _).setCell (Nat.le_refl _) _

attribute [local go_sem] store_float in
set_option maxHeartbeats 1000000 in
theorem tt_any (a b : Nat) (w : World) : Calls Ybad.prog 17 #[.agg #[.float .f64 a, .float .f64 b]] w fun e w' => e = .returned (.agg #[.float .f64 a, .float .f64 b]) ∧ Below w.heap.size w w' := by
  go_enter Ybad.func17, Ybad.ntmps17
  go_wp2_with fail
  exact bodyPost_ret (v := .agg #[.float .f64 a, .float .f64 b]) (by simp [results, Ybad.results17, go_sem]) rfl ⟨rfl, ((Below.refl _ _).alloc (Nat.le_refl _) _).alloc (by simp) _⟩

attribute [local go_sem] store_float in
set_option maxHeartbeats 1000000 in
theorem j2000_any (w : World) (h : J2k w) : Calls Ybad.prog 5 #[] w fun e w' => e = .returned (.agg #[.float .f64 4702519064147263488, .float .f64 0]) ∧ Below w.heap.size w w' := by
  obtain ⟨h1, h2, h3⟩ := h
  go_enter Ybad.func5, Ybad.ntmps5
  go_wp2_with fail
  go_at_call 17
  refine (tt_any _ _ _).mono ?_
  rintro e w1 ⟨rfl, hb⟩
  obtain ⟨hc, hf⟩ := bcell hb
  have hz : w.heap.size < w1.heap.size := by have := hb.size; simp at this; omega
  have HB : Hid (Below w.heap.size w w1) := ((Below.refl _ _).alloc (Nat.le_refl _) _).trans (hb.mono (by simp))
  clear hb
  go_wp2_with fail
  refine bodyPost_ret (v := .agg #[.float .f64 4702519064147263488, .float .f64 0]) (by simp [results, Ybad.results5, go_sem, hc, hz]) rfl ⟨rfl, ?_⟩
  exact (HB.out.setCell (Nat.le_refl _) _).setCell (Nat.le_refl _) _

attribute [local go_sem] store_float in
set_option maxHeartbeats 1000000 in
theorem b1900_any (w : World) : Calls Ybad.prog 6 #[] w fun e w' => ∃ f, e = .returned (.agg #[.float .f64 4702440627307020288, .float .f64 f]) ∧ cn f = fop .sub (cn 4702440627980256412) (cn 4702440627307020288) ∧ Below w.heap.size w w' := by
  go_enter Ybad.func6, Ybad.ntmps6
  go_wp2_with fail
  go_at_call 18
  refine (split_any _ _ _ floor1).mono ?_
  rintro e w0 ⟨f, rfl, cf, hb0⟩
  have CF : Hid _ := cf
  clear cf
  go_wp2_with fail
  go_at_call 17
  refine (tt_any _ _ _).mono ?_
  rintro e w1 ⟨rfl, hb1⟩
  have hb : Below (w.heap.size + 1) (w.alloc (.cells #[.float .f64 0, .float .f64 0] 26)) w1 := (hb0.mono (by simp)).trans (hb1.mono (by have := hb0.size; simpa using this))
  have hc : ∀ o, w1.cell? ⟨w.heap.size, o, none⟩ = (w.alloc (.cells #[.float .f64 0, .float .f64 0] 26)).cell? ⟨w.heap.size, o, none⟩ := fun o => hb.cell (p := ⟨w.heap.size, o, none⟩) (by simp)
  have hf : ∀ o, w1.frozen? ⟨w.heap.size, o, none⟩ = (w.alloc (.cells #[.float .f64 0, .float .f64 0] 26)).frozen? ⟨w.heap.size, o, none⟩ := fun o => hb.frozen (p := ⟨w.heap.size, o, none⟩) (by simp)
  have HB : Hid (Below w.heap.size w w1) := ((Below.refl _ _).alloc (Nat.le_refl _) _).trans (hb.mono (by simp))
  have hz : w.heap.size < w1.heap.size := by have := hb.size; simp at this; omega
  clear hb hb0 hb1
  go_wp2_with fail
  refine bodyPost_ret (v := .agg #[.float .f64 4702440627307020288, .float .f64 f]) (by simp [results, Ybad.results6, go_sem, hc, hz]) rfl ⟨f, rfl, CF.out, ?_⟩
  exact (HB.out.setCell (Nat.le_refl _) _).setCell (Nat.le_refl _) _

attribute [local go_sem] store_float in
set_option maxHeartbeats 1000000 in
theorem b1950_any (w : World) : Calls Ybad.prog 7 #[] w fun e w' => ∃ f, e = .returned (.agg #[.float .f64 4702479844653400064, .float .f64 f]) ∧ cn f = fop .sub (cn 4702479845562859389) (cn 4702479844653400064) ∧ Below w.heap.size w w' := by
  go_enter Ybad.func7, Ybad.ntmps7
  go_wp2_with fail
  go_at_call 18
  refine (split_any _ _ _ floor2).mono ?_
  rintro e w0 ⟨f, rfl, cf, hb0⟩
  have CF : Hid _ := cf
  clear cf
  go_wp2_with fail
  go_at_call 17
  refine (tt_any _ _ _).mono ?_
  rintro e w1 ⟨rfl, hb1⟩
  have hb : Below (w.heap.size + 1) (w.alloc (.cells #[.float .f64 0, .float .f64 0] 26)) w1 := (hb0.mono (by simp)).trans (hb1.mono (by have := hb0.size; simpa using this))
  have hc : ∀ o, w1.cell? ⟨w.heap.size, o, none⟩ = (w.alloc (.cells #[.float .f64 0, .float .f64 0] 26)).cell? ⟨w.heap.size, o, none⟩ := fun o => hb.cell (p := ⟨w.heap.size, o, none⟩) (by simp)
  have hf : ∀ o, w1.frozen? ⟨w.heap.size, o, none⟩ = (w.alloc (.cells #[.float .f64 0, .float .f64 0] 26)).frozen? ⟨w.heap.size, o, none⟩ := fun o => hb.frozen (p := ⟨w.heap.size, o, none⟩) (by simp)
  have HB : Hid (Below w.heap.size w w1) := ((Below.refl _ _).alloc (Nat.le_refl _) _).trans (hb.mono (by simp))
  have hz : w.heap.size < w1.heap.size := by have := hb.size; simp at this; omega
  clear hb hb0 hb1
  go_wp2_with fail
  refine bodyPost_ret (v := .agg #[.float .f64 4702479844653400064, .float .f64 f]) (by simp [results, Ybad.results7, go_sem, hc, hz]) rfl ⟨f, rfl, CF.out, ?_⟩
  exact (HB.out.setCell (Nat.le_refl _) _).setCell (Nat.le_refl _) _

set_option maxHeartbeats 1000000 in
theorem sub_any (a b c d : Nat) (w : World) : Calls Ybad.prog 42 #[.agg #[.float .f64 a, .float .f64 b], .agg #[.float .f64 c, .float .f64 d]] w fun e w' => ∃ r, e = .returned (.float .f64 r) ∧ cn r = fop .add (fop .sub (cn a) (cn c)) (fop .sub (cn b) (cn d)) ∧ Below w.heap.size w w' := by
  go_enter Ybad.func42, Ybad.ntmps42
  go_wp2_with fail
  refine upon_float (by simp) ?_
  intro r1 n1 s1
  go_wp2_with fail
  refine upon_float (by simp) ?_
  intro r2 n2 s2
  go_wp2_with fail
  refine upon_float (by simp) ?_
  intro r3 n3 s3
  go_wp2_with fail
  go_ret
  exact ⟨_, rfl, by rw [s3.out, s2.out, s1.out], below_drewN (((Below.refl _ _).alloc (Nat.le_refl _) _).alloc (by simp) _) _⟩

def centF (d f : Nat) : Nat := fop .quo (fop .add (fop .sub d J0) (fop .sub f 0)) C365
theorem cn_J0 : cn 4702519064147263488 = J0 := by decide
theorem cn_0 : cn 0 = 0 := by decide
theorem cn_C : cn 4675252771358769152 = C365 := by decide

set_option maxHeartbeats 1000000 in
theorem cent_low (d f : Nat) (w : World) (h : J2k w) : Calls Ybad.prog 33 #[.agg #[.float .f64 d, .float .f64 f]] w fun e w' => ∃ r, e = .returned (.float .f64 r) ∧ cn r = centF (cn d) (cn f) ∧ Below w.heap.size w w' := by
  obtain ⟨h1, h2, h3⟩ := h
  go_enter Ybad.func33, Ybad.ntmps33
  go_wp2_with fail
  go_at_call 42
  refine (sub_any _ _ _ _ _).mono ?_
  rintro e w1 ⟨r, rfl, cr, hb⟩
  have CR : Hid _ := cr
  have HB : Hid (Below w.heap.size w w1) := ((Below.refl _ _).alloc (Nat.le_refl _) _).trans (hb.mono (by simp))
  clear cr hb
  go_wp2_with fail
  refine upon_float (by simp) ?_
  intro r1 n1 s1
  go_wp2_with fail
  go_ret
  exact ⟨_, rfl, by rw [s1.out, CR.out, cn_J0, cn_0, cn_C]; rfl, below_drewN HB.out _⟩

set_option maxHeartbeats 1000000 in
theorem cent_any (d f : Nat) (w : World) (h : J2k w) : Calls Ybad.prog 22 #[.agg #[.float .f64 d, .float .f64 f]] w fun e w' => ∃ r, e = .returned (.float .f64 r) ∧ cn r = centF (cn d) (cn f) ∧ Below w.heap.size w w' := by
  have H : Hid (J2k (w.alloc (.cells #[.float .f64 d, .float .f64 f] 26))) := h.below ((Below.refl _ _).alloc (Nat.le_refl _) _) h.c
  clear h
  go_enter Ybad.func22, Ybad.ntmps22
  go_wp2_with fail
  go_at_call 33
  refine (cent_low _ _ _ H.out).mono ?_
  rintro e w1 ⟨r, rfl, cr, hb⟩
  have CR : Hid _ := cr
  have HB : Hid (Below w.heap.size w w1) := ((Below.refl _ _).alloc (Nat.le_refl _) _).trans (hb.mono (by simp))
  clear cr hb
  go_wp2_with fail
  go_ret
  exact ⟨_, rfl, CR.out, HB.out⟩
end Go.Proofs.YbulkdswqDoor
