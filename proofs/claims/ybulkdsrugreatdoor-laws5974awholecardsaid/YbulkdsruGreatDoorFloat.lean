/- Floats up to the bits of a NaN: 'cn' maps every NaN to one word; 'fop' is an operation on such words; what Go's operation gives is 'fop' of its operands, up to 'cn'. -/
import Derived.WalkKit
import Derived.WalkLawsBesides
import Derived.Deep.Draws
namespace Go.Proofs.YbulkdsruGreatDoor
open Go.RowKit Ieee
set_option linter.unusedVariables false

def isNaN (x : Nat) : Bool := (double.read x).isNaN
def qnan : Nat := 0x7ff8000000000001
def cn (x : Nat) : Nat := if isNaN x = true then qnan else x
def fop (op : BinOp) (x y : Nat) : Nat := (floatBits op .f64 x y).getD qnan

theorem read_word {f : Format} (neg : Bool) {rung : Nat} (h : rung ≤ f.infRung) : (f.read (f.word neg rung)).isNaN = false := by
  have hlt := f.infRung_lt
  have e : f.word neg rung % f.signWeight = rung := by
    unfold Format.word
    split
    · rw [Nat.add_mod_left]; exact Nat.mod_eq_of_lt (by omega)
    · exact Nat.mod_eq_of_lt (by omega)
  unfold Format.read
  simp only [e]
  split
  · rfl
  · split
    · rfl
    · split
      · rfl
      · omega

theorem read_write {f : Format} {d : Datum} (h : d.isNaN = false) : (f.read (f.write d)).isNaN = false := by
  cases d with
  | number neg mag place =>
    show (f.read (f.nearest neg mag place)).isNaN = false
    unfold Format.nearest
    split
    · exact read_word _ (Nat.zero_le _)
    · exact read_word _ (Nat.min_le_right _ _)
  | infinity neg => exact read_word _ (Nat.le_refl _)
  | nan neg fr => simp [Datum.isNaN] at h

theorem sum_not {a b d : Datum} (h : a.sum b = some d) : d.isNaN = false := by
  cases a <;> cases b <;> simp [Datum.sum] at h
  all_goals first
    | (subst h; rfl)
    | (obtain ⟨_, rfl⟩ := h; rfl)
theorem product_not {a b d : Datum} (h : a.product b = some d) : d.isNaN = false := by
  cases a <;> cases b <;> simp [Datum.product] at h
  all_goals first
    | (subst h; rfl)
    | (obtain ⟨_, rfl⟩ := h; rfl)
theorem quotient_not {n : Nat} {a b d : Datum} (h : a.quotient n b = some d) : d.isNaN = false := by
  cases a <;> cases b <;> simp [Datum.quotient] at h
  all_goals first
    | (subst h; rfl)
    | skip
  split at h
  · split at h
    · cases h
    · cases h; rfl
  · cases h; rfl

theorem bits_not {op : BinOp} {x y r : Nat} (h : floatBits op .f64 x y = some r) : isNaN r = false := by
  have key : ∀ o : Option Datum, (∀ d, o = some d → d.isNaN = false) → o.map double.write = some r → isNaN r = false := by
    intro o ho hm
    cases o with
    | none => cases hm
    | some d => cases hm; exact read_write (ho d rfl)
  unfold floatBits at h
  split at h
  · exact key _ (fun d => sum_not) h
  · exact key _ (fun d => sum_not) h
  · exact key _ (fun d => product_not) h
  · exact key _ (fun d => quotient_not) h
  · cases h

theorem cn_not {x : Nat} (h : isNaN x = false) : cn x = x := by simp [cn, h]
theorem cn_nan {x : Nat} (h : isNaN x = true) : cn x = qnan := by simp [cn, h]
theorem qnan_nan : isNaN qnan = true := by decide
theorem cn_isNaN (x : Nat) : isNaN (cn x) = isNaN x := by
  by_cases h : isNaN x = true
  · rw [cn_nan h, h]; exact qnan_nan
  · rw [cn_not (by simpa using h)]
theorem cn_cn (x : Nat) : cn (cn x) = cn x := by
  by_cases h : isNaN x = true
  · rw [cn_nan h, cn_nan qnan_nan]
  · rw [cn_not (x := x) (by simpa using h), cn_not (x := x) (by simpa using h)]

theorem isNaN_iff {x : Nat} (h : isNaN x = true) : ∃ s t, double.read x = .nan s t := by
  unfold isNaN at h
  generalize double.read x = d at h
  cases d <;> simp [Datum.isNaN] at h
  exact ⟨_, _, rfl⟩

theorem bits_left {op : BinOp} {x y : Nat} (h : isNaN x = true) : floatBits op .f64 x y = none := by
  obtain ⟨s, t, e⟩ := isNaN_iff h
  unfold floatBits
  split <;> simp [FloatKind.format, Format.add, Format.sub, Format.mul, Format.div, e, Datum.sum, Datum.product, Datum.quotient]
theorem bits_right {op : BinOp} {x y : Nat} (h : isNaN y = true) : floatBits op .f64 x y = none := by
  obtain ⟨s, t, e⟩ := isNaN_iff h
  unfold floatBits
  split <;> simp [FloatKind.format, Format.add, Format.sub, Format.mul, Format.div, e, Datum.opposite] <;> cases double.read x <;> simp [Datum.sum, Datum.product, Datum.quotient]

theorem fop_cn (op : BinOp) (x y : Nat) : fop op (cn x) (cn y) = fop op x y := by
  unfold fop
  by_cases hx : isNaN x = true
  · rw [bits_left hx, bits_left (by rw [cn_isNaN]; exact hx)]
  · by_cases hy : isNaN y = true
    · rw [bits_right hy, bits_right (by rw [cn_isNaN]; exact hy)]
    · rw [cn_not (by simpa using hx), cn_not (by simpa using hy)]

theorem nan_drawn (t : Nat) : isNaN ((t % 2) * 2 ^ 63 + 0x7ff0000000000000 + 1 + (t / 2) % (2 ^ 52 - 1)) = true := by
  have h1 : t % 2 < 2 := Nat.mod_lt _ (by omega)
  have h2 : (t / 2) % (2 ^ 52 - 1) < 2 ^ 52 - 1 := Nat.mod_lt _ (by decide)
  generalize t % 2 = a at h1
  generalize (t / 2) % (2 ^ 52 - 1) = b at h2
  have e : (a * 2 ^ 63 + 0x7ff0000000000000 + 1 + b) % 2 ^ 63 = 0x7ff0000000000000 + 1 + b := by omega
  unfold isNaN Format.read
  have s : double.signWeight = 2 ^ 63 := rfl
  have i : double.infRung = 0x7ff0000000000000 := rfl
  have bi : double.binade = 2 ^ 52 := rfl
  simp only [s, i, bi, e]
  rw [if_neg (by omega), if_neg (by omega), if_neg (by omega)]
  rfl

/-- One of the four operations: what it gives is 'fop' of the operands up to a NaN's bits; the world has at most drawn. -/
theorem fl_run (P : Program) (op : BinOp) (hop : op = .add ∨ op = .sub ∨ op = .mul ∨ op = .quo) (t : TypeId) (x y : Nat) (w : World) :
    ∃ r n, (binOp op t (.float .f64 x) (.float .f64 y)).run P w = .ok (.float .f64 r) (w.drewN n) ∧ cn r = fop op x y ∧ r < 2 ^ 64 := by
  cases h : floatBits op .f64 x y with
  | some r =>
    refine ⟨r, 0, by rw [run_float_arith w op t .f64 x y r h]; rfl, ?_, ?_⟩
    · rw [cn_not (bits_not h)]; simp [fop, h]
    · have := floatBits_wf h; simpa [Lit.wf] using this
  | none =>
    refine ⟨(Question.nanBits .f64 x y).cut (w.tape w.drawn (.nanBits .f64 x y)), 1, ?_, ?_, ?_⟩
    · unfold floatBits at h
      rcases hop with rfl | rfl | rfl | rfl <;> simp only at h <;> simp [binOp, Op.floatArith, h, Question.forced] <;> rfl
    · rw [cn_nan (by simp only [Question.cut]; exact nan_drawn _)]; simp [fop, h]
    · simp only [Question.cut]; omega

theorem upon_float {P : Program} {o : Oper} {a : Act} {K : Act → World → Prop} {Q : Exit → Act → World → Prop} {op : BinOp} {t : TypeId} {x y : Nat} {w : World} (hop : op = .add ∨ op = .sub ∨ op = .mul ∨ op = .quo)
    (h : ∀ r n, Hid (cn r = fop op (cn x) (cn y)) → Oper.upon P o a K Q (.ok (Next.value (.float .f64 r)) (w.drewN n))) :
    Oper.upon P o a K Q ((Sem.run P (binOp op t (.float .f64 x) (.float .f64 y)) w).andThen fun a w' => Result.ok (Next.value a) w') := by
  obtain ⟨r, n, hr, hc, _⟩ := fl_run P op hop t x y w
  rw [hr]
  exact h r n (by rw [fop_cn]; exact hc)

/-- A float is stored as every value of one cell is. -/
theorem store_float (P : Program) (w : World) (a : Addr) (m : Mode) (k : FloatKind) (x : Nat) : (store a (.float k x) m).run P w = stored P w a (.float k x) m := run_store P w a _ m rfl

/-! ### Comparing -/
theorem order_self (x : Nat) : (double.order x x == some .eq) = !isNaN x := by
  unfold Format.order isNaN
  generalize double.read x = d
  cases d with
  | number s m i => simp [Datum.order, Datum.isNaN]
  | infinity s => simp [Datum.order, Datum.isNaN]
  | nan s t => simp [Datum.order, Datum.isNaN]
theorem order_self_ne (x : Nat) : (FloatKind.f64.format.order x x != some .eq) = isNaN x := by
  show (!(double.order x x == some .eq)) = isNaN x
  rw [order_self]; simp
theorem cn_eq {x y : Nat} (h : cn x = cn y) (hx : isNaN x = false) : x = y := by
  have hy : isNaN y = false := by rw [← cn_isNaN y, ← h, cn_isNaN]; exact hx
  rwa [cn_not hx, cn_not hy] at h
theorem cn_nan_iff {x y : Nat} (h : cn x = cn y) : isNaN x = isNaN y := by rw [← cn_isNaN x, h, cn_isNaN]
end Go.Proofs.YbulkdsruGreatDoor
