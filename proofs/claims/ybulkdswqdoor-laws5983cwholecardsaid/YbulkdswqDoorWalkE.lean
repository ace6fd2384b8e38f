import Derived.Test.YbulkdswqDoorSincos
import Derived.Test.YbulkdswqDoorSeek
import Derived.Test.YbulkdswqDoorEach
namespace Go.Proofs.YbulkdswqDoor
open Go.RowKit Go.Op
set_option linter.unusedVariables false

theorem upon_float64 {P : Program} {o : Oper} {a : Act} {K : Act → World → Prop} {Q : Exit → Act → World → Prop} {op : BinOp} {t : TypeId} {x y : Nat} {w : World} (hop : op = .add ∨ op = .sub ∨ op = .mul ∨ op = .quo)
    (h : ∀ r n, Hid (cn r = fop op (cn x) (cn y)) → Hid (r < 2 ^ 64) → Oper.upon P o a K Q (.ok (Next.value (.float .f64 r)) (w.drewN n))) :
    Oper.upon P o a K Q ((Sem.run P (binOp op t (.float .f64 x) (.float .f64 y)) w).andThen fun a w' => Result.ok (Next.value a) w') := by
  obtain ⟨r, n, hr, hc, hl⟩ := fl_run P op hop t x y w
  rw [hr]
  exact h r n (by show cn r = _; rw [hc, fop_cn]) hl

set_option maxHeartbeats 1000000 in
theorem at_any64 (y0 y1 y2 n : Nat) (w : World) :
    Calls Ybad.prog 43 #[.agg #[.float .f64 y0, .float .f64 y1, .float .f64 y2], .float .f64 n] w fun e w' => ∃ r, e = .returned (.float .f64 r) ∧ cn r = atF (cn y0) (cn y1) (cn y2) (cn n) ∧ r < 2 ^ 64 ∧ Below w.heap.size w w' := by
  go_enter Ybad.func43, Ybad.ntmps43
  go_wp2_with fail
  refine (diff_any _ _ _ _).mono ?_
  rintro e w1 ⟨a, b, c, rfl, ha, hb, hc, hbel⟩
  have HA : Hid _ := ha
  have HB : Hid _ := hb
  have HC : Hid _ := hc
  have h1 : w1.cell? ⟨w.heap.size, 1, none⟩ = some (.float .f64 y1) := ((bcell hbel).1 w.heap.size 1 (by simp)).trans (by simp [go_sem])
  clear ha hb hc
  go_wp2_with fail
  refine upon_float (by simp) ?_
  intro r1 n1 s1
  go_wp2_with fail
  refine upon_float (by simp) ?_
  intro r2 n2 s2
  go_wp2_with fail
  refine upon_float (by simp) ?_
  intro r3 n3 s3
  go_wp2_with fail
  refine upon_float (by simp) ?_
  intro r4 n4 s4
  go_wp2_with fail
  refine upon_float (by simp) ?_
  intro r5 n5 s5
  go_wp2_with fail
  refine upon_float64 (by simp) ?_
  intro r6 n6 s6 L
  go_wp2_with fail
  go_ret
  refine ⟨r6, rfl, ?_, L.out, below_drewN (((Below.refl _ _).alloc (Nat.le_refl _) _).trans (hbel.mono (by simp))) _⟩
  rw [s6.out, s5.out, s4.out, s3.out, s2.out, s1.out, HA.out, HB.out, HC.out, cn_two]
  rfl

set_option maxHeartbeats 1000000 in
theorem slope_any64 (y0 y1 y2 n : Nat) (w : World) :
    Calls Ybad.prog 35 #[.agg #[.float .f64 y0, .float .f64 y1, .float .f64 y2], .float .f64 n] w fun e w' => ∃ r, e = .returned (.float .f64 r) ∧ cn r = slF (cn y0) (cn y1) (cn y2) (cn n) ∧ r < 2 ^ 64 ∧ Below w.heap.size w w' := by
  go_enter Ybad.func35, Ybad.ntmps35
  go_wp2_with fail
  refine (diff_any _ _ _ _).mono ?_
  rintro e w1 ⟨a, b, c, rfl, ha, hb, hc, hbel⟩
  have HA : Hid _ := ha
  have HB : Hid _ := hb
  have HC : Hid _ := hc
  clear ha hb hc
  go_wp2_with fail
  refine upon_float (by simp) ?_
  intro r1 n1 s1
  go_wp2_with fail
  refine upon_float (by simp) ?_
  intro r2 n2 s2
  go_wp2_with fail
  refine upon_float (by simp) ?_
  intro r3 n3 s3
  go_wp2_with fail
  refine upon_float64 (by simp) ?_
  intro r4 n4 s4 L
  go_wp2_with fail
  go_ret
  refine ⟨r4, rfl, ?_, L.out, below_drewN (((Below.refl _ _).alloc (Nat.le_refl _) _).trans (hbel.mono (by simp))) _⟩
  rw [s4.out, s3.out, s2.out, s1.out, HA.out, HB.out, HC.out, cn_two]
  rfl
end Go.Proofs.YbulkdswqDoor
