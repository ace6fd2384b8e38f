import Derived.Test.YbulkdswqDoorWalkT
import Derived.Deep.DeepCutAuto
namespace Go.Proofs.YbulkdswqDoor
open Go.RowKit
set_option linter.unusedVariables false

theorem absW_rg (x : Nat) : absW x = rg x := rfl
theorem K_nn {r : Nat} (h : r < 2 ^ 63) : K r = r := by
  have h1 : sg r = false := by unfold sg; simp; omega
  have h2 : rg r = r := Nat.mod_eq_of_lt h
  unfold K; rw [h1, h2]; rfl
theorem rg_rg (x : Nat) : rg (rg x) = rg x := Nat.mod_eq_of_lt (Nat.mod_lt _ (by decide))
theorem rg_lt (x : Nat) : rg x < 2 ^ 63 := Nat.mod_lt _ (by decide)

theorem inf_test {x : Nat} (hn : rg x ≤ INF) : (FloatKind.f64.format.order (absW x) 9218868437227405311 == some .gt) = decide (rg x = INF) := by
  show (Ieee.double.order (rg x) 9218868437227405311 == some .gt) = _
  by_cases h : rg x = INF
  · rw [h]; decide
  · have hlt : rg x < INF := by omega
    rw [order_gt (by rw [rg_rg]; exact hlt) (by decide), K_nn (rg_lt x), K_nn (by decide)]
    have hI : INF = 9218868437227405312 := by decide
    rw [hI] at hlt
    simp [h]; omega

set_option maxHeartbeats 400000 in
theorem inf_any (x : Nat) (w : World) (hx : x < 2 ^ 64) (hn : rg x ≤ INF) : Calls Ybad.prog 29 #[.float .f64 x, .int .i64 0] w fun e w' => e = .returned (.bool (decide (rg x = INF))) ∧ w' = w := by
  have ht := inf_test hn
  have HX : Hid (x < 2 ^ 64) := hx
  clear hn hx
  go_enter Ybad.func29, Ybad.ntmps29
  go_wp2_with (go_at_call 12; refine (abs_any _ _ HX.out).mono ?_; rintro e w' ⟨rfl, rfl⟩)
  all_goals
    go_ret
    exact ⟨rfl, rfl⟩

set_option maxHeartbeats 400000 in
theorem nanv_any (w : World) : Calls Ybad.prog 36 #[] w fun e w' => e = .returned (.float .f64 9221120237041090561) ∧ w' = w := by
  have hf := from_run
  go_enter Ybad.func36, Ybad.ntmps36
  go_wp2
  go_ret
  exact ⟨rfl, rfl⟩

/-- The tables lie as the text lays them. -/
structure Tabs (w : World) : Prop where
  c0 : w.cell? ⟨2, 0, none⟩ = some (.float .f64 13666448263388469915)
  c1 : w.cell? ⟨2, 1, none⟩ = some (.float .f64 4477121864728985349)
  c2 : w.cell? ⟨2, 2, none⟩ = some (.float .f64 13732177093698800582)
  c3 : w.cell? ⟨2, 3, none⟩ = some (.float .f64 4537941361668146421)
  c4 : w.cell? ⟨2, 4, none⟩ = some (.float .f64 13787419979223748497)
  c5 : w.cell? ⟨2, 5, none⟩ = some (.float .f64 4586165620538955083)
  s0 : w.cell? ⟨3, 0, none⟩ = some (.float .f64 4460209587652500685)
  s1 : w.cell? ⟨3, 1, none⟩ = some (.float .f64 13716528389658582877)
  s2 : w.cell? ⟨3, 2, none⟩ = some (.float .f64 4523617212962785441)
  s3 : w.cell? ⟨3, 3, none⟩ = some (.float .f64 13774824197404483331)
  s4 : w.cell? ⟨3, 4, none⟩ = some (.float .f64 4575957461383575504)
  s5 : w.cell? ⟨3, 5, none⟩ = some (.float .f64 13818544856648471880)
  pi : Pi4 w

/-! ### The plain function -/
def one : Nat := 4607182418800017408
def horner (c0 c1 c2 c3 c4 c5 z : Nat) : Nat :=
  fop .add (fop .mul (fop .add (fop .mul (fop .add (fop .mul (fop .add (fop .mul (fop .add (fop .mul c0 z) c1) z) c2) z) c3) z) c4) z) c5
def cosP (z : Nat) : Nat :=
  let zz := fop .mul z z
  fop .add (fop .sub one (fop .mul (cn 4602678819172646912) zz)) (fop .mul (fop .mul zz zz) (horner (cn 13666448263388469915) (cn 4477121864728985349) (cn 13732177093698800582) (cn 4537941361668146421) (cn 13787419979223748497) (cn 4586165620538955083) zz))
def sinP (z : Nat) : Nat :=
  let zz := fop .mul z z
  fop .add z (fop .mul (fop .mul z zz) (horner (cn 4460209587652500685) (cn 13716528389658582877) (cn 4523617212962785441) (cn 13774824197404483331) (cn 4575957461383575504) (cn 13818544856648471880) zz))
def ng (v : Nat) : Nat := cn (Op.negFloat .f64 v)
def j1 (J : Nat) : Nat := if 3 < J then J - 4 else J
def sb (ss : Bool) (J : Nat) : Bool := if 3 < J then !ss else ss
def cb (J : Nat) : Bool := if 1 < j1 J then !decide (3 < J) else decide (3 < J)
def swp (J : Nat) : Bool := decide (j1 J = 1 ∨ j1 J = 2)
def sinR (ss : Bool) (J Z : Nat) : Nat := bif sb ss J then ng (bif swp J then cosP Z else sinP Z) else (bif swp J then cosP Z else sinP Z)
def cosR (J Z : Nat) : Nat := bif cb J then ng (bif swp J then sinP Z else cosP Z) else (bif swp J then sinP Z else cosP Z)

theorem cn_one : cn 4607182418800017408 = one := by decide

theorem neg_isNaN (x : Nat) : isNaN (Op.negFloat .f64 x) = isNaN x := by
  unfold isNaN
  rw [read_neg]
  cases Ieee.double.read x <;> rfl
theorem ng_cn (r : Nat) : cn (Op.negFloat .f64 r) = ng (cn r) := by
  unfold ng
  by_cases h : isNaN r = true
  · rw [cn_nan h, cn_nan (by rw [neg_isNaN]; exact h), cn_nan (by rw [neg_isNaN]; exact qnan_nan)]
  · rw [cn_not (x := r) (by simpa using h)]

theorem neg_word {x : Nat} (hx : x < 2 ^ 64) (hs : sg x = true) : Op.negFloat .f64 x = rg x := by
  have e : Op.negFloat .f64 x = x ^^^ 2 ^ 63 := rfl
  have h1 : (x ^^^ 2 ^ 63) % 2 ^ 63 = x % 2 ^ 63 := by rw [Nat.xor_mod_two_pow]; simp
  have h2 : (x ^^^ 2 ^ 63) / 2 ^ 63 = (x / 2 ^ 63) ^^^ 1 := by rw [Nat.xor_div_two_pow]
  have h3 : x / 2 ^ 63 = 1 := by unfold sg at hs; simp at hs; omega
  rw [h3] at h2
  have h4 : (x ^^^ 2 ^ 63) / 2 ^ 63 = 0 := h2
  rw [e]
  unfold rg
  omega

theorem lt0_test {x : Nat} (hf : rg x < INF) (h0 : 0 < rg x) : (FloatKind.f64.format.order x 0 == some .lt) = sg x := by
  show (Ieee.double.order x 0 == some .lt) = _
  rw [order_lt hf (by decide), K_nn (r := 0) (by decide)]
  unfold K sgd
  cases sg x <;> simp <;> omega
theorem eq0_test {x : Nat} (hf : rg x < INF) : (FloatKind.f64.format.order x 0 == some .eq) = decide (rg x = 0) := by
  show (Ieee.double.order x 0 == some .eq) = _
  rw [order_eq hf (by decide), K_nn (r := 0) (by decide)]
  unfold K sgd
  cases sg x <;> simp <;> omega
theorem big_test {a : Nat} (hf : a < INF) : (FloatKind.f64.format.order a 4737786807993761792 == some .gt || FloatKind.f64.format.order a 4737786807993761792 == some .eq) = decide (4737786807993761792 ≤ a) := by
  show (Ieee.double.order a 4737786807993761792 == some .gt || Ieee.double.order a 4737786807993761792 == some .eq) = _
  have hI := INF_lt
  have r1 : rg a = a := Nat.mod_eq_of_lt (by omega)
  rw [order_gt (by rw [r1]; exact hf) (by decide), order_eq (by rw [r1]; exact hf) (by decide), K_nn (r := a) (by omega), K_nn (r := 4737786807993761792) (by decide)]
  by_cases h : 4737786807993761792 ≤ a
  · simp [h]; omega
  · simp [h]; omega

/-- What the reduction of a number a > 0 leaves: the octant J and the rest Z. -/
def Red (a J Z : Nat) : Prop :=
  (4737786807993761792 ≤ a ∧ ∀ w, Pi4 w → Calls Ybad.prog 37 #[.float .f64 a] w fun e w' => ∃ r k, e = .returned (.tuple #[.int .u64 J, .float .f64 r]) ∧ cn r = Z ∧ w' = w.drewN k) ∨
  (a < 4737786807993761792 ∧ ∃ n : Nat, n < 2 ^ 53 ∧ floatToIntVal .f64 (fop .mul (cn a) (cn 4608412980311869571)) .u64 = some (n : Int) ∧ isNaN (fop .mul (cn a) (cn 4608412980311869571)) = false ∧
    J = (bif n % 2 == 1 then n + 1 else n) % 8 ∧
    Z = (let Y := bif n % 2 == 1 then fop .add (cn (floatOfInt .f64 n)) one else cn (floatOfInt .f64 n)
      fop .sub (fop .sub (fop .sub (cn a) (fop .mul Y (cn 4605249456957292544))) (fop .mul Y (cn 4495793288086814720))) (fop .mul Y (cn 4388835458085048688))))

end Go.Proofs.YbulkdswqDoor
