import Derived.Test.YbulkdswqDoorAng
import Derived.Deep.DeepCutAuto
namespace Go.Proofs.YbulkdswqDoor
open Go.RowKit Go.Op
set_option linter.unusedVariables false
set_option linter.unusedSimpArgs false

theorem upon_f64 {P : Program} {o : Oper} {a : Act} {K : Act → World → Prop} {Q : Exit → Act → World → Prop} {op : BinOp} {t : TypeId} {x y : Nat} {w : World} (hop : op = .add ∨ op = .sub ∨ op = .mul ∨ op = .quo)
    (h : ∀ r n, Hid (cn r = fop op (cn x) (cn y)) → Hid (r < 2 ^ 64) → Oper.upon P o a K Q (.ok (Next.value (.float .f64 r)) (w.drewN n))) :
    Oper.upon P o a K Q ((Sem.run P (binOp op t (.float .f64 x) (.float .f64 y)) w).andThen fun a w' => Result.ok (Next.value a) w') := by
  obtain ⟨r, n, hr, hc, hl⟩ := fl_run P op hop t x y w
  rw [hr]
  exact h r n (by show cn r = _; rw [hc, fop_cn]) hl

def pm (neg : Bool) (a b : Nat) : Nat := bif neg then fop .sub a b else fop .add a b
def acc2 (T c0 c1 c2 : Nat) (neg2 : Bool) : Nat := pm neg2 (fop .add c0 (fop .mul c1 T)) (fop .mul c2 (fop .mul T T))
def acc3 (T c0 c1 c2 : Nat) (neg2 : Bool) (d3 : Nat) (neg3 : Bool) : Nat := pm neg3 (acc2 T c0 c1 c2 neg2) (fop .quo (fop .mul (fop .mul T T) T) d3)
def acc4 (T c0 c1 c2 : Nat) (neg2 : Bool) (d3 : Nat) (neg3 has4 : Bool) (d4 : Nat) (neg4 : Bool) : Nat :=
  bif has4 then pm neg4 (acc3 T c0 c1 c2 neg2 d3 neg3) (fop .quo (fop .mul (fop .mul (fop .mul T T) T) T) d4) else acc3 T c0 c1 c2 neg2 d3 neg3

set_option maxRecDepth 8000 in
set_option maxHeartbeats 4000000 in
theorem bangle_any (n T c0 c1 c2 : Nat) (neg2 : Bool) (d3 : Nat) (neg3 has4 : Bool) (d4 : Nat) (neg4 : Bool) (v : Nat) (w : World)
    (ha : angF n (radF (acc4 (cn T) (cn c0) (cn c1) (cn c2) neg2 (cn d3) neg3 has4 (cn d4) neg4)) = some v) :
    Calls Ybad.prog 9 #[.float .f64 T, .float .f64 c0, .float .f64 c1, .float .f64 c2, .bool neg2, .float .f64 d3, .bool neg3, .bool has4, .float .f64 d4, .bool neg4] w fun e w' => ∃ k, e = .returned (.float .f64 v) ∧ w' = w.drewN k := by
  have HA : Hid _ := ha
  clear ha
  go_enter Ybad.func9, Ybad.ntmps9
  go_wp2_with fail
  refine upon_float (by simp) ?_
  intro r1 n1 s1
  go_wp2_with fail
  refine upon_float (by simp) ?_
  intro r2 n2 s2
  go_wp2_with fail
  refine upon_float (by simp) ?_
  intro r3 n3 s3
  go_wp2_with fail
  refine upon_float (by simp) ?_
  intro r4 n4 s4
  go_wp2_with fail
  refine upon_float (by simp) ?_
  intro r5 n5 s5
  go_wp2_with fail
  refine upon_float (by simp) ?_
  intro r6 n6 s6
  go_upto_if 47 with fail
  go_cut [24] (fun p wc => ∃ a k, p = .float .f64 a ∧ cn a = acc2 (cn T) (cn c0) (cn c1) (cn c2) neg2 ∧ wc = w.drewN k)
  case first =>
    cases neg2
    all_goals
      go_wp2_with fail
      refine upon_float (by simp) ?_
      intro r7 n7 s7
      go_wp2_with fail
      go_meet
      case rel => exact ⟨_, _, rfl, by rw [s7.out, s5.out, s4.out, s6.out, s1.out]; rfl, rfl⟩
  case rest =>
    obtain ⟨a2, k2, rfl, ca2, rfl⟩ := hcut
    have CA2 : Hid _ := ca2
    clear ca2
    go_wp2_with fail
    refine upon_float (by simp) ?_
    intro r8 n8 s8
    go_upto_if 57 with fail
    go_cut [24] (fun p wc => ∃ a k, p = .float .f64 a ∧ cn a = acc3 (cn T) (cn c0) (cn c1) (cn c2) neg2 (cn d3) neg3 ∧ wc = w.drewN k)
    case first =>
      cases neg3
      all_goals
        go_wp2_with fail
        refine upon_float (by simp) ?_
        intro r7 n7 s7
        go_wp2_with fail
        go_meet
        case rel => exact ⟨_, _, rfl, by rw [s7.out, CA2.out, s8.out, s2.out, s1.out]; rfl, rfl⟩
    case rest =>
      obtain ⟨a3, k3, rfl, ca3, rfl⟩ := hcut
      have CA3 : Hid _ := ca3
      clear ca3
      go_upto_if 64 with fail
      go_cut [24] (fun p wc => ∃ a k, p = .float .f64 a ∧ cn a = acc4 (cn T) (cn c0) (cn c1) (cn c2) neg2 (cn d3) neg3 has4 (cn d4) neg4 ∧ wc = w.drewN k)
      case first =>
        cases has4
        · go_wp2_with fail
          go_meet
          case rel => exact ⟨_, _, rfl, by rw [CA3.out]; rfl, rfl⟩
        · cases neg4
          all_goals
            go_wp2_with fail
            refine upon_float (by simp) ?_
            intro r9 n9 s9
            go_wp2_with fail
            refine upon_float (by simp) ?_
            intro r10 n10 s10
            go_wp2_with fail
            go_meet
            case rel => exact ⟨_, _, rfl, by rw [s10.out, CA3.out, s9.out, s3.out, s2.out, s1.out]; rfl, rfl⟩
      case rest =>
        obtain ⟨a4, k4, rfl, ca4, rfl⟩ := hcut
        have CA4 : Hid _ := ca4
        clear ca4 s1 s2 s3 s4 s5 s6 s8 CA2 CA3
        go_wp2_with fail
        refine upon_float (by simp) ?_
        intro r11 n11 s11
        go_wp2_with fail
        refine upon_f64 (by simp) ?_
        intro r12 n12 s12 l12
        have hrad : cn r12 = radF (acc4 (cn T) (cn c0) (cn c1) (cn c2) neg2 (cn d3) neg3 has4 (cn d4) neg4) := by
          rw [s12.out, s11.out, CA4.out, cn_PI, cn_D180]; rfl
        have hraw := radF_raw hrad HA.out
        rw [← hraw] at HA
        obtain ⟨h0, h1, res, hm, hw⟩ := angF_parts HA.out
        have hl := modF_lt _ _ _ hm
        have hT : TP < INF := by decide
        have HMOD : Hid (∀ w, Calls Ybad.prog 21 #[.float .f64 r12, .float .f64 4618760256179416344] w fun e w' => ∃ k, e = .returned (.float .f64 (sgn (sg r12) res)) ∧ w' = w.drewN k) := fun w => mod_any n r12 _ res w rfl l12.out h0 h1 hm
        unfold wrapF at hw
        cases hs : sg r12
        · rw [hs, cond_false] at hw
          obtain rfl := Option.some.inj hw
          have t1 := pos_lt0 (r := res) (by omega)
          have e : sgn (sg r12) res = res := by rw [hs]; rfl
          rw [e] at HMOD
          clear h0 h1 hm hw hl hT hs e s12 l12 hrad hraw s11
          go_wp2_with fail
          go_at_call 21
          refine (HMOD.out _).mono ?_
          rintro e w' ⟨k, rfl, rfl⟩
          go_wp2_with fail
          go_ret
          exact ⟨_, rfl, rfl⟩
        · rw [hs, cond_true] at hw
          cases hc : (decide (0 < res) && decide (fop .add (Op.negFloat .f64 res) TP < TP))
          · rw [hc] at hw; cases hw
          · rw [hc, cond_true] at hw
            simp only [Bool.and_eq_true, decide_eq_true_eq] at hc
            obtain ⟨c0', c1'⟩ := hc
            have hv := Option.some.inj hw
            have t1 := neg_lt0 c0' (show res < INF by omega)
            have e : sgn (sg r12) res = Op.negFloat .f64 res := by rw [hs]; rfl
            rw [e] at HMOD
            have NC : Hid _ := neg_cn (show res < INF by omega)
            have HV : Hid (fop .add (Op.negFloat .f64 res) TP = v) := hv
            have VT : Hid (v < TP) := by show v < TP; rw [← hv]; exact c1'
            clear h0 h1 hm hw hl hT hs e c0' c1' hv s12 l12 hrad hraw s11
            generalize Op.negFloat .f64 res = z at t1 HMOD NC HV
            go_wp2_with fail
            go_at_call 21
            refine (HMOD.out _).mono ?_
            rintro e w' ⟨k, rfl, rfl⟩
            go_wp2_with fail
            refine upon_float (by simp) ?_
            intro r13 n13 s13
            have E1 : r13 = v := by
              refine notnan ?_ (Nat.lt_trans VT.out (by decide))
              rw [s13.out, NC.out, ← HV.out]
              exact congrArg _ cn_TP
            subst E1
            have t2 : (FloatKind.f64.format.order r13 4618760256179416344 == some .gt || FloatKind.f64.format.order r13 4618760256179416344 == some .eq) = false := by
              have := ge_test (r := r13) (Nat.lt_trans VT.out (by decide))
              have h2 := VT.out
              exact this.trans (by simp; omega)
            clear s13
            go_wp2_with fail
            go_ret
            exact ⟨_, rfl, rfl⟩
end Go.Proofs.YbulkdswqDoor
