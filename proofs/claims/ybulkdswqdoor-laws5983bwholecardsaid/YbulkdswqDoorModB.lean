import Derived.Test.YbulkdswqDoorModA
import Derived.Deep.LoopGhost
namespace Go.Proofs.YbulkdswqDoor
open Go.RowKit
set_option linter.unusedVariables false
set_option linter.unusedSimpArgs false

/-- The exponent's step of a round. -/
def stepE (r : Nat) : Int := bif decide (frF r < frF TP) then exF r - 1 else exF r
def stepK (r : Nat) : Int := stepE r - exF TP
def modF : Nat → Nat → Option Nat
  | 0, _ => none
  | n + 1, r => bif decide (r < TP) then some r else
    bif decide (r < INF) && (decide (0 ≤ stepK r) && decide (stepK r ≤ 900)) then modF n (fop .sub r (ldF (stepK r).toNat)) else none

theorem modF_lt : ∀ (n r v : Nat), modF n r = some v → v < TP := by
  intro n
  induction n with
  | zero => intro r v h; cases h
  | succ n ih =>
    intro r v h
    unfold modF at h
    cases h1 : decide (r < TP)
    · rw [h1, cond_false] at h
      cases h2 : (decide (r < INF) && (decide (0 ≤ stepK r) && decide (stepK r ≤ 900)))
      · rw [h2] at h; cases h
      · rw [h2] at h; exact ih _ _ h
    · rw [h1, cond_true] at h
      cases h
      exact of_decide_eq_true h1

theorem ge_test {r : Nat} (hr : r < INF) : (FloatKind.f64.format.order r TP == some .gt || FloatKind.f64.format.order r TP == some .eq) = decide (TP ≤ r) := by
  show (Ieee.double.order r TP == some .gt || Ieee.double.order r TP == some .eq) = _
  have hI := INF_lt
  have hT : TP < 2 ^ 63 := by decide
  have r1 : rg r = r := Nat.mod_eq_of_lt (by omega)
  rw [order_gt (by rw [r1]; exact hr) (by decide), order_eq (by rw [r1]; exact hr) (by decide), K_nn (r := r) (by omega), K_nn (r := TP) hT]
  by_cases h : TP ≤ r
  · simp [h]; omega
  · simp [h]; omega

theorem fr_lt {a b : Nat} : (FloatKind.f64.format.order (frF a) (frF b) == some .lt) = decide (frF a < frF b) := by
  have h : ∀ c, frF c < INF := by
    intro c
    have hB := bB
    have hI := iI
    unfold frF
    have := Nat.mod_lt c (show 0 < B by decide)
    rw [hB] at this ⊢
    omega
  have hI := INF_lt
  have ha := h a
  have hb := h b
  have r1 : rg (frF a) = frF a := Nat.mod_eq_of_lt (by omega)
  have r2 : rg (frF b) = frF b := Nat.mod_eq_of_lt (by omega)
  show (Ieee.double.order (frF a) (frF b) == some .lt) = _
  rw [order_lt (by rw [r1]; exact ha) (by rw [r2]; exact hb), K_nn (by omega), K_nn (by omega)]
  simp

theorem ex_bound {r : Nat} (h : r < INF) : -1022 ≤ exF r ∧ exF r ≤ 1025 := by
  have hB := bB
  have hI := iI
  unfold exF
  rw [hB]
  omega

theorem raw_same {r res : Nat} (h : cn r = res) (hn : isNaN res = false) : r = res := by
  have : isNaN r = false := by rw [← cn_isNaN, h]; exact hn
  rwa [cn_not this] at h

theorem notnan {r v : Nat} (hc : cn r = v) (hv : v < INF) : r = v := by
  refine raw_same hc ?_
  have hI := INF_lt
  have r1 : rg v = v := Nat.mod_eq_of_lt (by omega)
  rw [isNaN_rg, r1]; simp; omega

theorem modF_fin {n r v : Nat} (h : modF n r = some v) : r < INF := by
  cases n with
  | zero => cases h
  | succ n =>
    unfold modF at h
    by_cases h1 : r < TP
    · exact Nat.lt_trans h1 (by decide)
    · rw [decide_eq_false h1, cond_false] at h
      by_cases h2 : r < INF
      · exact h2
      · rw [decide_eq_false h2] at h
        cases h

def sgn (s : Bool) (r : Nat) : Nat := bif s then Op.negFloat .f64 r else r

set_option maxRecDepth 8000 in
set_option maxHeartbeats 4000000 in
theorem mod_low (n x y res : Nat) (w : World) (hy : y = TP) (hx64 : x < 2 ^ 64) (h0 : 0 < rg x) (hx : rg x < INF) (hm : modF n (rg x) = some res) :
    Calls Ybad.prog 32 #[.float .f64 x, .float .f64 y] w fun e w' => ∃ k, e = .returned (.float .f64 (sgn (sg x) res)) ∧ w' = w.drewN k := by
  have hI := INF_lt
  have t1 : (FloatKind.f64.format.order y 0 == some .eq) = false := by subst hy; decide
  have t2 : isNaN x = false := by rw [isNaN_rg]; simp; omega
  have t3 : decide (rg x = INF) = false := by simp; omega
  have t4 : isNaN y = false := by subst hy; decide
  have t5 : absW y = y := by subst hy; decide
  have t6 := lt0_test hx h0
  have HX : Hid (x < 2 ^ 64) := hx64
  have HY : Hid (y < 2 ^ 64) := by show y < 2 ^ 64; subst hy; decide
  have HR : Hid (rg x ≤ INF) := by show rg x ≤ INF; omega
  have HYT : Hid (y = TP) := hy
  have H1 : Hid (B ≤ y) := by show B ≤ y; subst hy; decide
  have H2 : Hid (y < INF) := by show y < INF; subst hy; decide
  have HM : Hid _ := hm
  have HN : Hid (sg x = true → Op.negFloat .f64 x = rg x) := neg_word hx64
  have HP : Hid (sg x = false → x = rg x) := by
    intro h; unfold sg at h; unfold rg; simp at h; omega
  have hng := neg_float
  clear hI hy hx64 h0 hx hm
  go_enter Ybad.func32, Ybad.ntmps32
  go_upto_if 34 with (first | (go_at_call 28; refine (nan_any _ _).mono ?_; rintro e w' ⟨rfl, hw⟩; rw [hw]; clear hw) | (go_at_call 29; refine (inf_any _ _ HX.out HR.out).mono ?_; rintro e w' ⟨rfl, hw⟩; rw [hw]; clear hw) | (go_at_call 12; refine (abs_any _ _ HY.out).mono ?_; rintro e w' ⟨rfl, hw⟩; rw [hw]; clear hw) | (go_at_call 40; refine (frexp_any _ _ H1.out H2.out).mono ?_; rintro e w' ⟨rfl, hw⟩; rw [hw]; clear hw))
  go_cut [7] (fun a wc => wc = w ∧ a = .float .f64 (rg x))
  case first =>
    clear t1 t2 t3 t4 t5
    cases hs : sg x
    · rw [hs] at t6
      have HS : Hid (x = rg x) := HP.out hs
      clear hs HP HN hng
      go_wp2_with fail
      go_meet
      case rel => exact ⟨rfl, by rw [← HS.out]⟩
    · rw [hs] at t6
      have hm := HN.out hs
      clear hs HP HN
      go_wp2_with fail
      go_meet
      case rel => exact ⟨rfl, rfl⟩
  case rest =>
    obtain ⟨hw, rfl⟩ := hcut
    obtain rfl : w = wc := hw.symm
    clear hw t1 t2 t3 t4 t5 HN HP
    go_wp2_with fail
    go_loopg [7] n (fun k p wr => ∃ r q, p = .float .f64 r ∧ Hid (modF k r = some res) ∧ wr = w.drewN q)
    case atStart => exact ⟨_, 0, rfl, HM, rfl⟩
    case round =>
      obtain ⟨r, q, rfl, HS, rfl⟩ := hrel
      clear HM
      cases gk with
      | zero => exact absurd HS.out (by simp [modF])
      | succ gk =>
        have HS' := HS.out
        unfold modF at HS'
        by_cases hlt : r < TP
        · rw [decide_eq_true hlt, cond_true] at HS'
          have hres : r = res := Option.some.inj HS'
          subst hres
          have T1 : (FloatKind.f64.format.order r y == some .gt || FloatKind.f64.format.order r y == some .eq) = false := by
            rw [HYT.out, ge_test (Nat.lt_trans hlt (by decide))]; simp; omega
          clear HS HS' hlt
          cases hs : sg x
          · rw [hs] at t6
            have HSG : Hid _ := hs
            clear hs
            go_wp2_with fail
            go_ret
            exact ⟨_, by rw [HSG.out]; rfl, rfl⟩
          · rw [hs] at t6
            have HSG : Hid _ := hs
            clear hs
            go_wp2_with fail
            go_ret
            exact ⟨_, by rw [HSG.out]; rfl, rfl⟩
        · rw [decide_eq_false hlt, cond_false] at HS'
          cases hc : (decide (r < INF) && (decide (0 ≤ stepK r) && decide (stepK r ≤ 900)))
          · rw [hc] at HS'; cases HS'
          · rw [hc, cond_true] at HS'
            simp only [Bool.and_eq_true, decide_eq_true_eq] at hc
            obtain ⟨c1, c2, c3⟩ := hc
            have T1 : (FloatKind.f64.format.order r y == some .gt || FloatKind.f64.format.order r y == some .eq) = true := by
              rw [HYT.out, ge_test c1]; simp; omega
            have T2 : (FloatKind.f64.format.order (frF r) (frF y) == some .lt) = decide (frF r < frF y) := fr_lt
            have hb : B ≤ r := by have : B ≤ TP := by decide
                                  omega
            have B1 : Hid (B ≤ r) := hb
            have B2 : Hid (r < INF) := c1
            obtain ⟨x1, x2⟩ := ex_bound c1
            obtain ⟨y1, y2⟩ := ex_bound H2.out
            obtain ⟨kk, hkk⟩ : ∃ kk : Nat, stepK r = kk := ⟨(stepK r).toNat, by omega⟩
            rw [hkk] at HS'
            have K9 : Hid (kk ≤ 900) := by show kk ≤ 900; omega
            have HSS : Hid (modF gk (fop .sub r (ldF kk)) = some res) := HS'
            have hk' : (bif decide (frF r < frF y) then exF r - 1 else exF r) - exF y = (kk : Int) := by
              rw [HYT.out]; exact hkk
            have HK : Hid _ := hk'
            have HT6 : Hid _ := t6
            clear HS HS' hlt c1 c2 c3 hb hkk hk' t6
            cases hd : decide (frF r < frF y)
            all_goals
              rw [hd] at T2
              rw [hd] at HK
              have hk2 := HK.out
              simp only [cond_true, cond_false] at hk2
              clear hd HK
              go_wp2_with (go_at_call 40; refine (frexp_any _ _ B1.out B2.out).mono ?_; rintro e w' ⟨rfl, hw⟩; rw [hw]; clear hw)
              go_at_call 41
              refine (ldexp_any y kk _ HYT.out K9.out).mono ?_
              rintro e w' ⟨r2, q2, rfl, c2, rfl⟩
              have C2 : Hid _ := c2
              clear c2
              go_wp2_with fail
              refine upon_float (by simp) ?_
              intro r3 q3 s3
              have E3 : r3 = fop .sub r (ldF kk) := by
                refine notnan ?_ (modF_fin HSS.out)
                have hr : cn r = r := by
                  have := B2.out
                  have hI := INF_lt
                  have r1 : rg r = r := Nat.mod_eq_of_lt (by omega)
                  refine cn_not ?_
                  rw [isNaN_rg, r1]; simp; omega
                rw [s3.out, C2.out, hr]
              have H3 : Hid (modF gk r3 = some res) := by show modF gk r3 = some res; rw [E3]; exact HSS.out
              clear s3 E3
              go_wp2_with fail
              go_roundg gk
              case measure => omega
              case rel => exact ⟨_, _, rfl, H3, rfl⟩

set_option maxHeartbeats 1000000 in
theorem mod_any (n x y res : Nat) (w : World) (hy : y = TP) (hx64 : x < 2 ^ 64) (h0 : 0 < rg x) (hx : rg x < INF) (hm : modF n (rg x) = some res) :
    Calls Ybad.prog 21 #[.float .f64 x, .float .f64 y] w fun e w' => ∃ k, e = .returned (.float .f64 (sgn (sg x) res)) ∧ w' = w.drewN k := by
  have H : Hid (∀ w, Calls Ybad.prog 32 #[.float .f64 x, .float .f64 y] w fun e w' => ∃ k, e = .returned (.float .f64 (sgn (sg x) res)) ∧ w' = w.drewN k) := fun w => mod_low n x y res w hy hx64 h0 hx hm
  clear hy hx64 h0 hx hm
  go_enter Ybad.func21, Ybad.ntmps21
  go_wp2_with fail
  go_at_call 32
  refine (H.out _).mono ?_
  rintro e w' ⟨k, rfl, rfl⟩
  go_wp2_with fail
  go_ret
  exact ⟨_, rfl, rfl⟩
end Go.Proofs.YbulkdswqDoor
