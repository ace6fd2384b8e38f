import Derived.Test.YbulkdswqDoorWalkSa
namespace Go.Proofs.YbulkdswqDoor
open Go.RowKit
set_option linter.unusedVariables false
set_option linter.unusedSimpArgs false

set_option maxRecDepth 8000 in
set_option maxHeartbeats 4000000 in
theorem sincos_core (x J Z : Nat) (w : World) (hx : x < 2 ^ 64) (hfin : rg x < INF) (h0 : 0 < rg x) (hJ : J ≤ 7) (hr : Red (rg x) J Z) (ht : Tabs w) :
    Calls Ybad.prog 27 #[.float .f64 x] w fun e w' => ∃ s c k, e = .returned (.tuple #[.float .f64 s, .float .f64 c]) ∧ cn s = sinR (sg x) J Z ∧ cn c = cosR J Z ∧ w' = w.drewN k := by
  have t1 : (FloatKind.f64.format.order x 0 == some .eq) = false := by rw [eq0_test hfin]; simp; omega
  have t2 : isNaN x = false := by rw [isNaN_rg]; simp; omega
  have t3 : decide (rg x = INF) = false := by simp; omega
  have t4 := lt0_test hfin h0
  have t5 := big_test hfin
  have hng := neg_float
  have HX : Hid (x < 2 ^ 64) := hx
  have HF : Hid (rg x < INF) := hfin
  have HT : Hid (Tabs w) := ht
  have HR : Hid (Red (rg x) J Z) := hr
  have HN : Hid (sg x = true → Op.negFloat .f64 x = rg x) := neg_word hx
  have HM : Hid (sg x = false → x = rg x) := by
    intro h; unfold sg at h; unfold rg; simp at h; omega
  clear hx hfin ht hr
  go_enter Ybad.func27, Ybad.ntmps27
  go_upto_if 24 with (first | (go_at_call 28; refine (nan_any _ _).mono ?_; rintro e w' ⟨rfl, hw⟩; rw [hw]; clear hw) | (go_at_call 29; refine (inf_any _ _ HX.out (Nat.le_of_lt HF.out)).mono ?_; rintro e w' ⟨rfl, hw⟩; rw [hw]; clear hw))
  go_cut [0, 4] (fun a b wc => wc = w ∧ a = .float .f64 (rg x) ∧ b = .bool (sg x))
  case first =>
    clear t1 t2 t3 t5
    cases hs : sg x
    · rw [hs] at t4
      have HM2 : Hid (x = rg x) := HM.out hs
      have HS : Hid (sg x = false) := hs
      clear hs HM HN hng
      go_wp2_with fail
      go_meet
      case rel => exact ⟨rfl, by rw [← HM2.out], by rw [HS.out]⟩
    · rw [hs] at t4
      have hm := HN.out hs
      have HS : Hid (sg x = true) := hs
      clear hs HM HN
      go_wp2_with fail
      go_meet
      case rel => exact ⟨rfl, rfl, by rw [HS.out]⟩
  case rest =>
    obtain ⟨hw, rfl, rfl⟩ := hcut
    obtain rfl : w = wc := hw.symm
    clear hw
    go_upto_if 28 with fail
    clear t1 t2 t3 t4 t5 hng
    go_cut [6, 8] (fun a b wc => ∃ r k, a = .int .u64 J ∧ b = .float .f64 r ∧ cn r = Z ∧ wc = w.drewN k)
    case first =>
      cases hb : decide (4737786807993761792 ≤ rg x)
      · have hb' : ¬ 4737786807993761792 ≤ rg x := of_decide_eq_false hb
        clear hb
        obtain ⟨n, hn, hcv, hnn, HJ, HZ⟩ : ∃ n : Nat, Hid (n < 2 ^ 53) ∧ Hid (floatToIntVal .f64 (fop .mul (cn (rg x)) (cn 4608412980311869571)) .u64 = some (n : Int)) ∧ Hid (isNaN (fop .mul (cn (rg x)) (cn 4608412980311869571)) = false) ∧
            Hid (J = (bif n % 2 == 1 then n + 1 else n) % 8) ∧
            Hid (Z = (let Y := bif n % 2 == 1 then fop .add (cn (floatOfInt .f64 n)) one else cn (floatOfInt .f64 n)
      fop .sub (fop .sub (fop .sub (cn (rg x)) (fop .mul Y (cn 4605249456957292544))) (fop .mul Y (cn 4495793288086814720))) (fop .mul Y (cn 4388835458085048688)))) := by
          rcases HR.out with h | ⟨_, n, h1, h2, h3, h4, h5⟩
          · omega
          · exact ⟨n, h1, h2, h3, h4, h5⟩
        clear hb' HR
        go_wp2_with fail
        refine upon_float (by simp) ?_
        intro r1 n1 s1
        have hc : ∀ w, (convert 22 46 (.float .f64 r1)).run Ybad.prog w = .ok (.int .u64 n) w := fun w => run_convert_float_int w 22 46 .f64 .u64 r1 n (by rw [Ybad.underlying22]; rfl) Ybad.underlying46 (by
          have e : r1 = fop .mul (cn (rg x)) (cn 4608412980311869571) := by
            rw [← s1.out]
            exact (cn_not (by rw [← cn_isNaN, s1.out]; exact hnn.out)).symm
          rw [e]; exact hcv.out)
        clear hcv hnn s1
        go_upto_if 41 with (simp only [hc])
        clear hc
        have hn' := hn.out
        have hp : (bits BinOp.and IntKind.u64 (n : Int) 1 == 1) = (n % 2 == 1) := by
          have h := bits_and_u64_nat n 1 (by omega) (by omega)
          have e : n &&& 1 = n % 2 := Nat.and_one_is_mod n
          rw [e] at h
          have h' : bits BinOp.and IntKind.u64 (n : Int) 1 = ((n % 2 : Nat) : Int) := h
          rw [h']
          by_cases h2 : n % 2 = 1
          · simp [h2]
          · have : n % 2 = 0 := by omega
            simp [this]
        have hm : ∀ m : Nat, m < 2 ^ 54 → bits BinOp.and IntKind.u64 (m : Int) 7 = ((m % 8 : Nat) : Int) := by
          intro m hm
          have h := bits_and_u64_nat m 7 (by omega) (by omega)
          have e : m &&& 7 = m % 8 := Nat.and_two_pow_sub_one_eq_mod m 3
          rw [e] at h
          exact h
        simp only [hp]
        clear hp
        cases hq : (n % 2 == 1)
        · have hm1 := hm n (by omega)
          clear hm
          rw [hq] at HJ HZ
          have HM1 : Hid (bits BinOp.and IntKind.u64 (n : Int) 7 = ((n % 8 : Nat) : Int)) := hm1
          clear hq hm1
          go_wp2_with fail
          refine upon_float (by simp) ?_
          intro r2 n2 s2
          go_wp2_with fail
          refine upon_float (by simp) ?_
          intro r3 n3 s3
          go_wp2_with fail
          refine upon_float (by simp) ?_
          intro r4 n4 s4
          go_wp2_with fail
          refine upon_float (by simp) ?_
          intro r5 n5 s5
          go_wp2_with fail
          refine upon_float (by simp) ?_
          intro r6 n6 s6
          go_wp2_with fail
          refine upon_float (by simp) ?_
          intro r7 n7 s7
          go_wp2_with fail
          go_meet
          case rel =>
            refine ⟨_, _, ?_, rfl, ?_, rfl⟩
            · rw [HM1.out, HJ.out]; rfl
            · rw [s7.out, s5.out, s3.out, s2.out, s4.out, s6.out, HZ.out]; rfl
        · have hm1 := hm (n + 1) (by omega)
          clear hm
          rw [hq] at HJ HZ
          have HM1 : Hid (bits BinOp.and IntKind.u64 ((n : Int) + 1) 7 = (((n + 1) % 8 : Nat) : Int)) := hm1
          clear hq hm1
          go_wp2_with fail
          refine upon_float (by simp) ?_
          intro r1 n1 s1
          go_wp2_with fail
          refine upon_float (by simp) ?_
          intro r2 n2 s2
          go_wp2_with fail
          refine upon_float (by simp) ?_
          intro r3 n3 s3
          go_wp2_with fail
          refine upon_float (by simp) ?_
          intro r4 n4 s4
          go_wp2_with fail
          refine upon_float (by simp) ?_
          intro r5 n5 s5
          go_wp2_with fail
          refine upon_float (by simp) ?_
          intro r6 n6 s6
          go_wp2_with fail
          refine upon_float (by simp) ?_
          intro r7 n7 s7
          go_wp2_with fail
          go_meet
          case rel =>
            refine ⟨_, _, ?_, rfl, ?_, rfl⟩
            · rw [HM1.out, HJ.out]; rfl
            · rw [s7.out, s5.out, s3.out, s2.out, s4.out, s6.out, s1.out, HZ.out, cn_one]; rfl
      · have hb' : 4737786807993761792 ≤ rg x := of_decide_eq_true hb
        have HC : Hid (∀ w, Pi4 w → Calls Ybad.prog 37 #[.float .f64 (rg x)] w fun e w' => ∃ r k, e = .returned (.tuple #[.int .u64 J, .float .f64 r]) ∧ cn r = Z ∧ w' = w.drewN k) := by
          rcases HR.out with h | h
          · exact h.2
          · omega
        clear hb hb'
        go_wp2_with fail
        go_at_call 37
        refine (HC.out _ HT.out.pi).mono ?_
        rintro e w' ⟨r, k, rfl, hz, rfl⟩
        have HZ : Hid (cn r = Z) := hz
        clear hz
        go_wp2_with fail
        go_meet
        case rel => exact ⟨_, _, rfl, rfl, HZ.out, rfl⟩
    case rest =>
      obtain ⟨r, k, rfl, rfl, hz, rfl⟩ := hcut
      have HZ : Hid (cn r = Z) := hz
      clear hz
      clear HN HM HR HX HF
      go_upto_if 59 with fail
      go_cut [4, 5, 6] (fun a b c wc => a = .bool (sb (sg x) J) ∧ b = .bool (decide (3 < J)) ∧ c = .int .u64 (j1 J : Nat) ∧ wc = w.drewN k)
      case first =>
        by_cases h3 : 3 < J
        · go_wp2_with fail
          go_meet
          case rel =>
            refine ⟨?_, ?_, ?_, rfl⟩
            · simp [sb, h3]
            · simp [h3]
            · have : j1 J = J - 4 := by simp [j1, h3]
              rw [this]; congr 1; omega
        · go_wp2_with fail
          go_meet
          case rel =>
            refine ⟨?_, ?_, ?_, rfl⟩
            · simp [sb, h3]
            · simp [h3]
            · simp [j1, h3]
      case rest =>
        obtain ⟨rfl, rfl, rfl, rfl⟩ := hcut
        have hj1 : j1 J ≤ 3 := by unfold j1; split <;> omega
        go_upto_if 67 with fail
        go_cut [5] (fun a wc => a = .bool (cb J) ∧ wc = w.drewN k)
        case first =>
          by_cases h1 : 1 < j1 J
          · go_wp2_with fail
            go_meet
            case rel =>
              refine ⟨?_, rfl⟩
              simp [cb, h1]
          · go_wp2_with fail
            go_meet
            case rel =>
              refine ⟨?_, rfl⟩
              simp [cb, h1]
        case rest =>
          obtain ⟨rfl, rfl⟩ := hcut
          obtain ⟨g0, g1, g2, g3, g4, g5, f0, f1, f2, f3, f4, f5, _⟩ := HT.out
          go_wp2_with fail
          refine upon_float (by simp) ?_
          intro rc0 nc0 sc0
          go_wp2_with fail
          refine upon_float (by simp) ?_
          intro rc1 nc1 sc1
          go_wp2_with fail
          refine upon_float (by simp) ?_
          intro rc2 nc2 sc2
          go_wp2_with fail
          refine upon_float (by simp) ?_
          intro rc3 nc3 sc3
          go_wp2_with fail
          refine upon_float (by simp) ?_
          intro rc4 nc4 sc4
          go_wp2_with fail
          refine upon_float (by simp) ?_
          intro rc5 nc5 sc5
          go_wp2_with fail
          refine upon_float (by simp) ?_
          intro rc6 nc6 sc6
          go_wp2_with fail
          refine upon_float (by simp) ?_
          intro rc7 nc7 sc7
          go_wp2_with fail
          refine upon_float (by simp) ?_
          intro rc8 nc8 sc8
          go_wp2_with fail
          refine upon_float (by simp) ?_
          intro rc9 nc9 sc9
          go_wp2_with fail
          refine upon_float (by simp) ?_
          intro rc10 nc10 sc10
          go_wp2_with fail
          refine upon_float (by simp) ?_
          intro rc11 nc11 sc11
          go_wp2_with fail
          refine upon_float (by simp) ?_
          intro rc12 nc12 sc12
          go_wp2_with fail
          refine upon_float (by simp) ?_
          intro rc13 nc13 sc13
          go_wp2_with fail
          refine upon_float (by simp) ?_
          intro rc14 nc14 sc14
          go_wp2_with fail
          refine upon_float (by simp) ?_
          intro rc15 nc15 sc15
          go_wp2_with fail
          refine upon_float (by simp) ?_
          intro rd1 nd1 sd1
          go_wp2_with fail
          refine upon_float (by simp) ?_
          intro rd2 nd2 sd2
          go_wp2_with fail
          refine upon_float (by simp) ?_
          intro rd3 nd3 sd3
          go_wp2_with fail
          refine upon_float (by simp) ?_
          intro rd4 nd4 sd4
          go_wp2_with fail
          refine upon_float (by simp) ?_
          intro rd5 nd5 sd5
          go_wp2_with fail
          refine upon_float (by simp) ?_
          intro rd6 nd6 sd6
          go_wp2_with fail
          refine upon_float (by simp) ?_
          intro rd7 nd7 sd7
          go_wp2_with fail
          refine upon_float (by simp) ?_
          intro rd8 nd8 sd8
          go_wp2_with fail
          refine upon_float (by simp) ?_
          intro rd9 nd9 sd9
          go_wp2_with fail
          refine upon_float (by simp) ?_
          intro rd10 nd10 sd10
          go_wp2_with fail
          refine upon_float (by simp) ?_
          intro rd11 nd11 sd11
          go_wp2_with fail
          refine upon_float (by simp) ?_
          intro rd12 nd12 sd12
          go_wp2_with fail
          refine upon_float (by simp) ?_
          intro rd13 nd13 sd13
          have HC : Hid (cn rc15 = cosP Z) := by
            show cn rc15 = cosP Z
            simp only [sc0.out, sc1.out, sc2.out, sc3.out, sc4.out, sc5.out, sc6.out, sc7.out, sc8.out, sc9.out, sc10.out, sc11.out, sc12.out, sc13.out, sc14.out, sc15.out, HZ.out, cn_one]
            rfl
          have HS : Hid (cn rd13 = sinP Z) := by
            show cn rd13 = sinP Z
            simp only [sc0.out, sd1.out, sd2.out, sd3.out, sd4.out, sd5.out, sd6.out, sd7.out, sd8.out, sd9.out, sd10.out, sd11.out, sd12.out, sd13.out, HZ.out]
            rfl
          clear sc0 sc1 sc2 sc3 sc4 sc5 sc6 sc7 sc8 sc9 sc10 sc11 sc12 sc13 sc14 sc15 sd1 sd2 sd3 sd4 sd5 sd6 sd7 sd8 sd9 sd10 sd11 sd12 sd13 HZ g0 g1 g2 g3 g4 g5 f0 f1 f2 f3 f4 f5 HT
          have hng := neg_float
          go_upto_if 146 with fail
          · rename_i h1
            have h1' : j1 J = 1 := by omega
            have HW : Hid (swp J = true) := by show swp J = true; simp [swp, h1']
            clear h1 h1' hj1
            cases hc : cb J <;> cases hs : sb (sg x) J
            all_goals
              have Hc : Hid (cb J = _) := hc
              have Hs : Hid (sb (sg x) J = _) := hs
              clear hc hs
              go_wp2_with fail
              go_ret2
              refine ⟨_, _, _, rfl, ?_, ?_, rfl⟩
              · simp only [sinR, Hs.out, HW.out, cond_true, cond_false, ng_cn, HC.out, HS.out]
              · simp only [cosR, Hc.out, HW.out, cond_true, cond_false, ng_cn, HC.out, HS.out]
          · rename_i h1
            by_cases h2 : j1 J = 2
            · have HW : Hid (swp J = true) := by show swp J = true; simp [swp, h2]
              have q1 : ((j1 J : Int) == 1) = false := by rw [h2]; rfl
              have q2 : ((j1 J : Int) == 2) = true := by rw [h2]; rfl
              clear h1 h2
              cases hc : cb J <;> cases hs : sb (sg x) J
              all_goals
                have Hc : Hid (cb J = _) := hc
                have Hs : Hid (sb (sg x) J = _) := hs
                clear hc hs
                go_wp2_with fail
                all_goals try (exfalso; rename_i hh; rw [q1, q2] at hh; simp at hh; done)
                go_ret2
                refine ⟨_, _, _, rfl, ?_, ?_, rfl⟩
                · simp only [sinR, Hs.out, HW.out, cond_true, cond_false, ng_cn, HC.out, HS.out]
                · simp only [cosR, Hc.out, HW.out, cond_true, cond_false, ng_cn, HC.out, HS.out]
            · have HW : Hid (swp J = false) := by show swp J = false; simp [swp, h2]; omega
              have q1 : ((j1 J : Int) == 1) = false := by simp; omega
              have q2 : ((j1 J : Int) == 2) = false := by simp; omega
              clear h1 h2
              cases hc : cb J <;> cases hs : sb (sg x) J
              all_goals
                have Hc : Hid (cb J = _) := hc
                have Hs : Hid (sb (sg x) J = _) := hs
                clear hc hs
                go_wp2_with fail
                all_goals try (exfalso; rename_i hh; rw [q1, q2] at hh; simp at hh; done)
                go_ret2
                refine ⟨_, _, _, rfl, ?_, ?_, rfl⟩
                · simp only [sinR, Hs.out, HW.out, cond_true, cond_false, ng_cn, HC.out, HS.out]
                · simp only [cosR, Hc.out, HW.out, cond_true, cond_false, ng_cn, HC.out, HS.out]
end Go.Proofs.YbulkdswqDoor
