import Derived.Test.YbulkdsruGreatDoorAvg
import Derived.Test.YbulkdsruGreatDoorClock3
namespace Go.Proofs.YbulkdsruGreatDoor
open Go.RowKit Go.Op Ieee
set_option linter.unusedVariables false
set_option linter.unusedSimpArgs false

/-- The duration that a number of seconds y comes to. -/
noncomputable def durD (y : Nat) : Int := open Classical in if h : rg (fop .mul y GIG) < R63 then Classical.choose (dur_ex y h) else 0

theorem dur14 {y : Nat} (h : rg (fop .mul y GIG) < R63) (hy : isNaN y = false) (w : World) : Calls Ybaz.prog 14 #[.float .f64 y] w fun e w' => e = .returned (.int .i64 (durD y)) ∧ Below w.heap.size w w' := by
  have := (Classical.choose_spec (dur_ex y h)).2.2.1 y w (cn_not hy)
  unfold durD
  rw [dif_pos h]
  exact this.mono (fun e w' ⟨k, h1, h2⟩ => ⟨h1, by rw [h2]; exact below_drewN k (Below.refl _ _)⟩)
theorem dur49 {y : Nat} (h : rg (fop .mul y GIG) < R63) (hy : isNaN y = false) (w : World) : Calls Ybaz.prog 49 #[.float .f64 y] w fun e w' => e = .returned (.int .i64 (durD y)) ∧ Below w.heap.size w w' := by
  have := (Classical.choose_spec (dur_ex y h)).2.2.2 y w (cn_not hy)
  unfold durD
  rw [dif_pos h]
  exact this.mono (fun e w' ⟨k, h1, h2⟩ => ⟨h1, by rw [h2]; exact below_drewN k (Below.refl _ _)⟩)
theorem durD_range {y : Nat} (h : rg (fop .mul y GIG) < R63) : -9223372036854775808 ≤ durD y ∧ durD y ≤ 9223372036854775807 := by
  unfold durD
  rw [dif_pos h]
  exact ⟨(Classical.choose_spec (dur_ex y h)).1, (Classical.choose_spec (dur_ex y h)).2.1⟩

theorem secF_nan {d : Int} (h0 : -9223372036854775808 ≤ d) (h1 : d ≤ 9223372036854775807) : rg (secF d) < INF := by
  have := secF_le h0 h1
  exact Nat.lt_of_le_of_lt this (by decide)
theorem not_nan {x : Nat} (h : rg x < INF) : isNaN x = false := by rw [isNaN_rg]; exact decide_eq_false (by omega)

theorem sec_det (d : Int) (w : World) (h0 : -9223372036854775808 ≤ d) (h1 : d ≤ 9223372036854775807) :
    Calls Ybaz.prog 16 #[.int .i64 d] w fun e w' => e = .returned (.float .f64 (secF d)) ∧ Below w.heap.size w w' := by
  refine (seconds_any d w h0 h1).mono ?_
  rintro e w' ⟨r, k, rfl, hc, rfl⟩
  have hn := not_nan (secF_nan h0 h1)
  have hr : isNaN r = false := by rw [← cn_isNaN, hc]; exact hn
  rw [cn_not hr] at hc
  rw [hc]
  exact ⟨rfl, below_drewN k (Below.refl _ _)⟩

theorem frac_bits {a p : Nat} (hb : p ≤ 255) (ha : a < p) : floatBits .quo .f64 (floatOfInt .f64 a) (floatOfInt .f64 p) = some (fracF a p) ∧ rg (fracF a p) < INF := by
  have e1 := foi_small (a := a) (by omega)
  have e2 := foi_small (a := p) hb
  have hp := Nat.two_pow_pos 1074
  obtain ⟨s, t, e, hl⟩ := quo_le_frac (x := floatOfInt .f64 a) (y := floatOfInt .f64 p) (foi_fin (by omega)) (foi_fin hb) (by rw [e2]; exact Nat.mul_pos (by omega) hp) (by
    rw [e1, e2, ← Nat.mul_assoc, ← Nat.mul_assoc]
    exact Nat.mul_le_mul_right _ (by omega))
  refine ⟨fop_of e, ?_⟩
  have := frac_le hb ha
  exact Nat.lt_of_le_of_lt this (by decide)

theorem prod_bits {a p : Nat} {d : Int} (hb : p ≤ 255) (ha : a < p) (h0 : -9223372036854775808 ≤ d) (h1 : d ≤ 9223372036854775807) :
    floatBits .mul .f64 (fracF a p) (secF d) = some (fop .mul (fracF a p) (secF d)) ∧ isNaN (fop .mul (fracF a p) (secF d)) = false := by
  have h := fop_of (mul_fin (frac_bits hb ha).2 (secF_nan h0 h1))
  exact ⟨h, bits_not h⟩

/-- The duration by which a time is brought closer. -/
noncomputable def closer (a p : Nat) (d : Int) : Int := durD (fop .mul (fracF a p) (secF d))
def negW (D : Int) : Int := IntKind.i64.wrap (-D)
theorem negW_range (D : Int) : -9223372036854775808 ≤ negW D ∧ negW D ≤ 9223372036854775807 := by
  unfold negW; simp [IntKind.wrap, IntKind.bits, IntKind.signed]; omega
def Tm.add (t : Tm) (D : Int) : Tm := ⟨nsF t.n D, addS t.n t.s D⟩
def Tm.sub (t u : Tm) : Int := subF t.n t.s u.n u.s
def Tm.ok (t : Tm) : Prop := 0 ≤ t.n ∧ t.n < 1000000000
theorem Tm.add_ok {t : Tm} (h : t.ok) (D : Int) : (t.add D).ok := nsF_bounds h.1 h.2

def set3 (w : World) (b i : Nat) (t : Tm) : World := ((w.setCell ⟨b, i, none⟩ (.int .u64 t.n)).setCell ⟨b, i + 1, none⟩ (.int .i64 t.s)).setCell ⟨b, i + 2, none⟩ (.pointer none)

noncomputable def psi31_4 (S : StV) (b : Nat) (mm p : Nat) (now : Tm) : Nat → Value → Prop
  | 26 => fun v => v = .pointer (some ⟨b, 0, none⟩)
  | 27 => fun v => v = tv now.n now.s
  | 28 => fun v => v = .float .f64 (fracF mm p)
  | 29 => fun v => v = .pointer (some ⟨b, 0, none⟩)
  | 30 => fun v => v = .pointer (some ⟨b, 0, none⟩)
  | 31 => fun v => v = .pointer (some ⟨b, 11, none⟩)
  | 32 => fun v => v = tv S.tn.n S.tn.s
  | 33 => fun v => v = tv now.n now.s
  | 34 => fun v => v = .int .i64 (Tm.sub S.tn now)
  | 35 => fun v => v = .float .f64 (secF (Tm.sub S.tn now))
  | 36 => fun v => v = .float .f64 (fop .mul (fracF mm p) (secF (Tm.sub S.tn now)))
  | 37 => fun v => v = .int .i64 (closer mm p (Tm.sub S.tn now))
  | 38 => fun v => v = tv (now.add (closer mm p (Tm.sub S.tn now))).n (now.add (closer mm p (Tm.sub S.tn now))).s
  | 39 => fun v => v = .pointer (some ⟨b, 0, none⟩)
  | 40 => fun v => v = .pointer (some ⟨b, 11, none⟩)
  | _ => fun _ => True

noncomputable def psi31_5 (S : StV) (b : Nat) (mm p : Nat) (now : Tm) : Nat → Value → Prop
  | 41 => fun v => v = .pointer (some ⟨b, 0, none⟩)
  | 42 => fun v => v = tv now.n now.s
  | 43 => fun v => v = .float .f64 (fracF mm p)
  | 44 => fun v => v = tv now.n now.s
  | 45 => fun v => v = .pointer (some ⟨b, 0, none⟩)
  | 46 => fun v => v = .pointer (some ⟨b, 0, none⟩)
  | 47 => fun v => v = .pointer (some ⟨b, 8, none⟩)
  | 48 => fun v => v = tv S.tp.n S.tp.s
  | 49 => fun v => v = .int .i64 (Tm.sub now S.tp)
  | 50 => fun v => v = .float .f64 (secF (Tm.sub now S.tp))
  | 51 => fun v => v = .float .f64 (fop .mul (fracF mm p) (secF (Tm.sub now S.tp)))
  | 52 => fun v => v = .int .i64 (closer mm p (Tm.sub now S.tp))
  | 53 => fun v => v = .int .i64 (negW (closer mm p (Tm.sub now S.tp)))
  | 54 => fun v => v = tv (now.add (negW (closer mm p (Tm.sub now S.tp)))).n (now.add (negW (closer mm p (Tm.sub now S.tp)))).s
  | 55 => fun v => v = .pointer (some ⟨b, 0, none⟩)
  | 56 => fun v => v = .pointer (some ⟨b, 8, none⟩)
  | _ => fun _ => True

theorem set3_heap {w : World} {b i : Nat} {cs : Array Value} {t : TypeId} {z : Nat × Nat} (h : w.heap[b]? = some (.cells cs t z)) (x : Tm) : (set3 w b i x).heap[b]? = some (.cells (((cs.setIfInBounds i (.int .u64 x.n)).setIfInBounds (i + 1) (.int .i64 x.s)).setIfInBounds (i + 2) (.pointer none)) t z) :=
  heap_set (heap_set (heap_set h _) _) _
theorem set3_other {w : World} {b i j : Nat} (h : j ≠ b) (x : Tm) : (set3 w b i x).heap[j]? = w.heap[j]? :=
  (Below.heap_setCell _ _ _ _ h).trans ((Below.heap_setCell _ _ _ _ h).trans (Below.heap_setCell _ _ _ _ h))
theorem set3_size (w : World) (b i : Nat) (x : Tm) : (set3 w b i x).heap.size = w.heap.size := by simp [set3, World.setCell]
theorem set3_two {b m : Nat} {w w' : World} (h : Two b m w w') (i : Nat) (x : Tm) : Two b m w (set3 w' b i x) := ((h.setCell _ _).setCell _ _).setCell _ _

/-- What a region of reconsiderReverse reads, and what lies. -/
structure Rd (W : World) (g b off : Nat) (now X : Tm) (w' : World) : Prop where
  bel : Below W.heap.size W w'
  cells : w'.cell? ⟨g, 0, none⟩ = some (.int .u64 now.n) ∧ w'.cell? ⟨g, 1, none⟩ = some (.int .i64 now.s) ∧ w'.cell? ⟨g, 2, none⟩ = some (.pointer none) ∧
    w'.cell? ⟨b, off, none⟩ = some (.int .u64 X.n) ∧ w'.cell? ⟨b, off + 1, none⟩ = some (.int .i64 X.s) ∧ w'.cell? ⟨b, off + 2, none⟩ = some (.pointer none) ∧ g < W.heap.size ∧ b < W.heap.size

theorem Rd.step {W : World} {g b off : Nat} {now X : Tm} {w1 w2 : World} (h : Rd W g b off now X w1) (hb : Below w1.heap.size w1 w2) : Rd W g b off now X w2 := by
  obtain ⟨h1, h2, h3, h4, h5, h6, h7, h8⟩ := h.cells
  have hz := h.bel.size
  have q : ∀ (i j : Nat) (v : Value), i < W.heap.size → w1.cell? ⟨i, j, none⟩ = some v → w2.cell? ⟨i, j, none⟩ = some v := fun i j v hi hv => (hb.cell (p := ⟨i, j, none⟩) (by simp; omega)).trans hv
  exact ⟨h.bel.trans (hb.mono hz), q _ _ _ h7 h1, q _ _ _ h7 h2, q _ _ _ h7 h3, q _ _ _ h8 h4, q _ _ _ h8 h5, q _ _ _ h8 h6, h7, h8⟩


noncomputable def recoS (S : StV) (c p : Nat) (now : Tm) : StV :=
  if c + 1 < p then { S with tn := now.add (closer (c + 1) p (S.tn.sub now)), tp := now.add (negW (closer (c + 1) p (now.sub S.tp))), pm := (c : Int) + 1 } else S

set_option maxRecDepth 8000 in
set_option maxHeartbeats 600000 in
theorem reco_any (b n c p : Nat) (S : StV) (now : Tm) (F : Int → Option Value) (w : World) (hs : Stt w b S) (hm : mp w S.mb n c F) (hp : S.pm = p) (hp2 : p ≤ 255) (hnow : now.ok) (htn : S.tn.ok) (htp : S.tp.ok) (hc : c < 1000000) :
    Calls Ybaz.prog 31 #[.pointer (some ⟨b, 0, none⟩), tv now.n now.s] w fun e w' => e = .returned (.tuple #[]) ∧ Stt w' b (recoS S c p now) ∧ Two b b w w' := by
  have HB : Hid (Below w.heap.size w (w.alloc (.cells #[.int .u64 now.n, .int .i64 now.s, .pointer none] 48))) := (Below.refl _ w).alloc (Nat.le_refl _) _
  have hlen := fun ty => mp_len (mp_below hm HB.out (mp_lt hm)) Ybaz.underlying41 ty
  have g2 : b < w.heap.size := hs.lt
  have g0 : ¬ b = w.heap.size := by omega
  have c5 : w.cell? ⟨b, 5, none⟩ = some (.map (some S.mb)) := cell_of hs
  have c7 : w.cell? ⟨b, 7, none⟩ = some (.int .i64 S.pm) := cell_of hs
  rw [hp] at c7
  have E1 : IntKind.i64.wrap ((c : Int) + 1) = (c : Int) + 1 := by simp [IntKind.wrap, IntKind.bits, IntKind.signed]; omega
  have HS : Hid (w.heap[b]? = some (.cells S.cells 58)) := hs
  have HNW : Hid now.ok := hnow
  have HTN : Hid S.tn.ok := htn
  have HTP : Hid S.tp.ok := htp
  have HP : Hid (S.pm = p) := hp
  have HP2 : Hid (p ≤ 255) := hp2
  clear hs hm hnow htn htp hp hp2
  by_cases hlt : c + 1 < p
  · have HLT : Hid _ := hlt
    have ER : Hid (recoS S c p now = { S with tn := now.add (closer (c + 1) p (S.tn.sub now)), tp := now.add (negW (closer (c + 1) p (now.sub S.tp))), pm := (c : Int) + 1 }) := by show recoS S c p now = _; unfold recoS; rw [if_pos hlt]
    have hq := det (frac_bits HP2.out hlt).1
    obtain ⟨mm, ha⟩ : ∃ mm, c + 1 = mm := ⟨_, rfl⟩
    have ea : ((c : Int) + 1) = (mm : Int) := by omega
    rw [ha] at hq ER HLT
    rw [ea] at ER E1
    have hge : ¬ p ≤ mm := by omega
    have ME1 := det (prod_bits (d := Tm.sub S.tn now) HP2.out HLT.out (subF_bounds S.tn.n S.tn.s now.n now.s).1 (subF_bounds S.tn.n S.tn.s now.n now.s).2).1
    have ME2 := det (prod_bits (d := Tm.sub now S.tp) HP2.out HLT.out (subF_bounds now.n now.s S.tp.n S.tp.s).1 (subF_bounds now.n now.s S.tp.n S.tp.s).2).1
    clear ha hlt hc
    go_enter Ybaz.func31, Ybaz.ntmps31
    unfold tv
    go_wp2_with fail
    have HS4 : Hid ((w.alloc (.cells #[.int .u64 now.n, .int .i64 now.s, .pointer none] 48)).heap[b]? = some (.cells S.cells 58)) := (HB.out.block b g2).trans HS.out
    obtain ⟨ST4, hST4⟩ : ∃ ST4, ST4 = S := ⟨_, rfl⟩
    have RD4 : Hid ((w.alloc (.cells #[.int .u64 now.n, .int .i64 now.s, .pointer none] 48)).cell? ⟨w.heap.size, 0, none⟩ = some (.int .u64 now.n) ∧ (w.alloc (.cells #[.int .u64 now.n, .int .i64 now.s, .pointer none] 48)).cell? ⟨w.heap.size, 1, none⟩ = some (.int .i64 now.s) ∧ (w.alloc (.cells #[.int .u64 now.n, .int .i64 now.s, .pointer none] 48)).cell? ⟨w.heap.size, 2, none⟩ = some (.pointer none) ∧
      (w.alloc (.cells #[.int .u64 now.n, .int .i64 now.s, .pointer none] 48)).cell? ⟨b, 11, none⟩ = some (.int .u64 S.tn.n) ∧ (w.alloc (.cells #[.int .u64 now.n, .int .i64 now.s, .pointer none] 48)).cell? ⟨b, 12, none⟩ = some (.int .i64 S.tn.s) ∧ (w.alloc (.cells #[.int .u64 now.n, .int .i64 now.s, .pointer none] 48)).cell? ⟨b, 13, none⟩ = some (.pointer none) ∧ w.heap.size < (w.alloc (.cells #[.int .u64 now.n, .int .i64 now.s, .pointer none] 48)).heap.size ∧ b < (w.alloc (.cells #[.int .u64 now.n, .int .i64 now.s, .pointer none] 48)).heap.size) := by
      refine ⟨by simp [go_sem], by simp [go_sem], by simp [go_sem], cell_of HS4.out, cell_of HS4.out, cell_of HS4.out, by simp, by simp; omega⟩
    rw [← hST4] at HS4
    have HZ : Hid ((w.alloc (.cells #[.int .u64 now.n, .int .i64 now.s, .pointer none] 48)).heap.size = w.heap.size + 1) := World.size_alloc _ _
    have HL4 : Hid ((w.alloc (.cells #[.int .u64 now.n, .int .i64 now.s, .pointer none] 48)).heap[w.heap.size]? = some (.cells #[.int .u64 now.n, .int .i64 now.s, .pointer none] 48)) := (MapKept.heap_alloc w _).1
    clear hlen c5 c7
    generalize (w.alloc (.cells #[.int .u64 now.n, .int .i64 now.s, .pointer none] 48)) = V1 at HS4 RD4 HB HZ HL4 ⊢
    have SB : Hid (-9223372036854775808 ≤ Tm.sub S.tn now ∧ Tm.sub S.tn now ≤ 9223372036854775807) := subF_bounds _ _ _ _
    have TL : Hid _ := time_le (d := Tm.sub S.tn now) HP2.out HLT.out SB.out.1 SB.out.2
    have PN : Hid _ := (prod_bits (d := Tm.sub S.tn now) HP2.out HLT.out SB.out.1 SB.out.2).2
    have DR : Hid (-9223372036854775808 ≤ closer mm p (Tm.sub S.tn now) ∧ closer mm p (Tm.sub S.tn now) ≤ 9223372036854775807) := durD_range TL.out
    have HX : Hid S.tn.ok := HTN.out
    refine wp_region_last (Rd V1 w.heap.size b 11 now S.tn) (fun w' => ∃ w0, Below V1.heap.size V1 w0 ∧ w' = set3 w0 b 11 (now.add (closer mm p (Tm.sub S.tn now)))) (psi31_4 S b mm p now) 15 mixed ?h0 (by kernel_rfl) (by kernel_rfl) (by kernel_rfl) (by kernel_rfl) (by kernel_rfl) ?each ?last ?fin
    case h0 =>
      exact ⟨(Below.refl _ _).drew, RD4.out⟩
    case each =>
      simp only [List.dropLast, List.forall_mem_cons]
      refine ⟨?_, ?_, ?_, ?_, ?_, ?_, ?_, ?_, ?_, ?_, ?_, ?_, ?_, ?_, ?_, fun _ h => by cases h⟩
      · intro a w1 hC hs hn
        have h1' : a.tmps.getD 0 undef = .pointer (some ⟨b, 0, none⟩) := hs 0 (by kernel_rfl)
        clear hs hn
        unfold Oper.wp
        simp only [execOp, Act.eval, h1']
        exact ⟨_, rfl, fun t ht => by cases ht; rfl, hC⟩
      · intro a w1 hC hs hn
        have h1' : a.tmps.getD 3 undef = .pointer (some ⟨w.heap.size, 0, none⟩) := hs 3 (by kernel_rfl)
        have hc0 : w1.cell? ⟨w.heap.size, 0, none⟩ = some (.int .u64 now.n) := hC.cells.1
        have hc1 : w1.cell? ⟨w.heap.size, 1, none⟩ = some (.int .i64 now.s) := hC.cells.2.1
        have hc2 : w1.cell? ⟨w.heap.size, 2, none⟩ = some (.pointer none) := hC.cells.2.2.1
        have HC : Hid _ := hC
        clear hs hn hC
        unfold Oper.wp
        simp only [execOp, Act.eval, h1']
        go_simp
        exact ⟨_, rfl, rfl, HC.out⟩
      · intro a w1 hC hs hn
        have h1' : a.tmps.getD 5 undef = .float .f64 (fracF mm p) := hs 5 (by kernel_rfl)
        clear hs hn
        unfold Oper.wp
        simp only [execOp, Act.eval, h1']
        exact ⟨_, rfl, fun t ht => by cases ht; rfl, hC⟩
      · intro a w1 hC hs hn
        have h1' : a.tmps.getD 0 undef = .pointer (some ⟨b, 0, none⟩) := hs 0 (by kernel_rfl)
        clear hs hn
        unfold Oper.wp
        simp only [execOp, Act.eval, h1']
        exact ⟨_, rfl, fun t ht => by cases ht; rfl, hC⟩
      · intro a w1 hC hs hn
        have h1' : a.tmps.getD 29 undef = .pointer (some ⟨b, 0, none⟩) := hn 29 (by kernel_rfl)
        have HC : Hid _ := hC
        clear hs hn hC
        unfold Oper.wp
        simp only [execOp, Act.eval, h1']
        go_simp
        exact ⟨_, rfl, rfl, HC.out⟩
      · intro a w1 hC hs hn
        have h1' : a.tmps.getD 30 undef = .pointer (some ⟨b, 0, none⟩) := hn 30 (by kernel_rfl)
        have HC : Hid _ := hC
        clear hs hn hC
        unfold Oper.wp
        simp only [execOp, Act.eval, h1']
        go_simp
        exact ⟨_, rfl, rfl, HC.out⟩
      · intro a w1 hC hs hn
        have h1' : a.tmps.getD 31 undef = .pointer (some ⟨b, 11, none⟩) := hn 31 (by kernel_rfl)
        have hc0 : w1.cell? ⟨b, 11, none⟩ = some (.int .u64 S.tn.n) := hC.cells.2.2.2.1
        have hc1 : w1.cell? ⟨b, 12, none⟩ = some (.int .i64 S.tn.s) := hC.cells.2.2.2.2.1
        have hc2 : w1.cell? ⟨b, 13, none⟩ = some (.pointer none) := hC.cells.2.2.2.2.2.1
        have HC : Hid _ := hC
        clear hs hn hC
        unfold Oper.wp
        simp only [execOp, Act.eval, h1']
        go_simp
        exact ⟨_, rfl, rfl, HC.out⟩
      · intro a w1 hC hs hn
        have h1' : a.tmps.getD 3 undef = .pointer (some ⟨w.heap.size, 0, none⟩) := hs 3 (by kernel_rfl)
        have hc0 : w1.cell? ⟨w.heap.size, 0, none⟩ = some (.int .u64 now.n) := hC.cells.1
        have hc1 : w1.cell? ⟨w.heap.size, 1, none⟩ = some (.int .i64 now.s) := hC.cells.2.1
        have hc2 : w1.cell? ⟨w.heap.size, 2, none⟩ = some (.pointer none) := hC.cells.2.2.1
        have HC : Hid _ := hC
        clear hs hn hC
        unfold Oper.wp
        simp only [execOp, Act.eval, h1']
        go_simp
        exact ⟨_, rfl, rfl, HC.out⟩
      · intro a w1 hC hs hn
        have h0' : a.tmps.getD 32 undef = tv S.tn.n S.tn.s := hn 32 (by kernel_rfl)
        have h1' : a.tmps.getD 33 undef = tv now.n now.s := hn 33 (by kernel_rfl)
        clear hs hn
        unfold Oper.wp
        simp only [execOp, Act.eval, h0', h1']
        go_simp
        refine (sub_any _ _ _ _ w1 HX.out.1 HX.out.2 HNW.out.1 HNW.out.2).mono ?_
        rintro e w2 ⟨rfl, hb⟩
        exact ⟨_, rfl, rfl, hC.step hb⟩
      · intro a w1 hC hs hn
        have h0' : a.tmps.getD 34 undef = .int .i64 (Tm.sub S.tn now) := hn 34 (by kernel_rfl)
        clear hs hn
        unfold Oper.wp
        simp only [execOp, Act.eval, h0']
        go_simp
        refine (sec_det _ w1 SB.out.1 SB.out.2).mono ?_
        rintro e w2 ⟨rfl, hb⟩
        exact ⟨_, rfl, rfl, hC.step hb⟩
      · intro a w1 hC hs hn
        have h1' : a.tmps.getD 28 undef = .float .f64 (fracF mm p) := hn 28 (by kernel_rfl)
        have h2' : a.tmps.getD 35 undef = .float .f64 (secF (Tm.sub S.tn now)) := hn 35 (by kernel_rfl)
        have HC : Hid _ := hC
        clear hs hn hC
        unfold Oper.wp
        simp only [execOp, Act.eval, h1', h2']
        go_simp
        exact ⟨_, rfl, rfl, HC.out⟩
      · intro a w1 hC hs hn
        have h0' : a.tmps.getD 36 undef = .float .f64 (fop .mul (fracF mm p) (secF (Tm.sub S.tn now))) := hn 36 (by kernel_rfl)
        clear hs hn
        unfold Oper.wp
        simp only [execOp, Act.eval, h0']
        go_simp
        refine (dur49 TL.out PN.out w1).mono ?_
        rintro e w2 ⟨rfl, hb⟩
        exact ⟨_, rfl, rfl, hC.step hb⟩
      · intro a w1 hC hs hn
        have h0' : a.tmps.getD 27 undef = tv now.n now.s := hn 27 (by kernel_rfl)
        have h1' : a.tmps.getD 37 undef = .int .i64 (closer mm p (Tm.sub S.tn now)) := hn 37 (by kernel_rfl)
        clear hs hn
        unfold Oper.wp
        simp only [execOp, Act.eval, h0', h1']
        go_simp
        refine (add_any _ _ _ w1 HNW.out.1 HNW.out.2 DR.out.1 DR.out.2).mono ?_
        rintro e w2 ⟨rfl, hb⟩
        exact ⟨_, rfl, rfl, hC.step hb⟩
      · intro a w1 hC hs hn
        have h1' : a.tmps.getD 26 undef = .pointer (some ⟨b, 0, none⟩) := hn 26 (by kernel_rfl)
        have HC : Hid _ := hC
        clear hs hn hC
        unfold Oper.wp
        simp only [execOp, Act.eval, h1']
        go_simp
        exact ⟨_, rfl, rfl, HC.out⟩
      · intro a w1 hC hs hn
        have h1' : a.tmps.getD 39 undef = .pointer (some ⟨b, 0, none⟩) := hn 39 (by kernel_rfl)
        have HC : Hid _ := hC
        clear hs hn hC
        unfold Oper.wp
        simp only [execOp, Act.eval, h1']
        go_simp
        exact ⟨_, rfl, rfl, HC.out⟩

    case last =>
      simp only [List.getLast?, List.getLast, Option.mem_def, Option.some.injEq]
      rintro o rfl
      intro a w1 hC hs hn
      have h1' : a.tmps.getD 40 undef = .pointer (some ⟨b, 11, none⟩) := hn 40 (by kernel_rfl)
      have h2' : a.tmps.getD 38 undef = tv (now.add (closer mm p (Tm.sub S.tn now))).n (now.add (closer mm p (Tm.sub S.tn now))).s := hn 38 (by kernel_rfl)
      have hc0 : w1.cell? ⟨b, 11, none⟩ = some (.int .u64 S.tn.n) := hC.cells.2.2.2.1
      have hc1 : w1.cell? ⟨b, 12, none⟩ = some (.int .i64 S.tn.s) := hC.cells.2.2.2.2.1
      have hc2 : w1.cell? ⟨b, 13, none⟩ = some (.pointer none) := hC.cells.2.2.2.2.2.1
      have hbk : w1.heap[b]? = some (.cells ST4.cells 58) := (hC.bel.block b hC.cells.2.2.2.2.2.2.2).trans HS4.out
      have hf0 : w1.frozen? ⟨b, 11, none⟩ = false := frozen_of hbk
      have hf1 : w1.frozen? ⟨b, 12, none⟩ = false := frozen_of hbk
      have hf2 : w1.frozen? ⟨b, 13, none⟩ = false := frozen_of hbk
      clear hs hn hbk
      unfold Oper.wp
      unfold tv at h2'
      simp only [execOp, Act.eval, h1', h2']
      have HC : Hid _ := hC.bel
      clear hC
      go_simp
      exact ⟨w1, HC.out, rfl⟩
    case fin =>
      intro f w1 hC hs hp
      obtain ⟨w0, hb0, rfl⟩ := hC
      have e0 : f 0 = .pointer (some ⟨b, 0, none⟩) := hs 0 (by kernel_rfl)
      have e3 : f 3 = .pointer (some ⟨w.heap.size, 0, none⟩) := hs 3 (by kernel_rfl)
      have e4 : f 4 = .int .i64 mm := hs 4 (by kernel_rfl)
      have e5 : f 5 = .float .f64 (fracF mm p) := hs 5 (by kernel_rfl)
      clear hs hp
      have HB0 : Hid (Below V1.heap.size V1 w0) := hb0
      have hbk : w0.heap[b]? = some (.cells ST4.cells 58) := (hb0.block b RD4.out.2.2.2.2.2.2.2).trans HS4.out
      have HS5 : Hid ((set3 w0 b 11 (now.add (closer mm p (S.tn.sub now)))).heap[b]? = some (.cells ({ S with tn := now.add (closer mm p (S.tn.sub now)) } : StV).cells 58)) := by
        have := set3_heap (i := 11) hbk (now.add (closer mm p (S.tn.sub now)))
        rw [hST4] at this
        exact this.trans (by simp [StV.cells])
      have HL5 : Hid ((set3 w0 b 11 (now.add (closer mm p (S.tn.sub now)))).heap[w.heap.size]? = some (.cells #[.int .u64 now.n, .int .i64 now.s, .pointer none] 48)) := (set3_other (fun e => g0 e.symm) _).trans ((hb0.block _ RD4.out.2.2.2.2.2.2.1).trans HL4.out)
      have HZ5 : Hid (w.heap.size + 1 ≤ (set3 w0 b 11 (now.add (closer mm p (S.tn.sub now)))).heap.size) := by have h1 := hb0.size; have h2 := HZ.out; have h3 := set3_size w0 b 11 (now.add (closer mm p (S.tn.sub now))); show _ ≤ _; omega
      have TW5 : Hid (Two b b w (set3 w0 b 11 (now.add (closer mm p (S.tn.sub now))))) := set3_two ((Two.below HB.out).trans ⟨hb0.os, hb0.tape, hb0.output, hb0.size, fun k hk _ _ => hb0.block k hk⟩) _ _
      obtain ⟨ST5, hST5⟩ : ∃ ST5, ST5 = ({ S with tn := now.add (closer mm p (S.tn.sub now)) } : StV) := ⟨_, rfl⟩
      rw [← hST5] at HS5
      have HST5 : Hid (ST5 = ({ S with tn := now.add (closer mm p (S.tn.sub now)) } : StV)) := hST5
      clear hST5 hbk hb0 HS4 hST4 RD4
      simp only [List.size_toArray, List.length_cons, List.length_nil, List.range, List.range.loop, List.map_cons, List.map_nil, e0, e3, e4, e5]
      generalize set3 w0 b 11 (now.add (closer mm p (S.tn.sub now))) = V2 at HS5 HL5 HZ5 TW5 ⊢
      clear e0 e3 e4 e5
      go_wp2_with fail
      have RD5 : Hid (V2.cell? ⟨w.heap.size, 0, none⟩ = some (.int .u64 now.n) ∧ V2.cell? ⟨w.heap.size, 1, none⟩ = some (.int .i64 now.s) ∧ V2.cell? ⟨w.heap.size, 2, none⟩ = some (.pointer none) ∧
      V2.cell? ⟨b, 8, none⟩ = some (.int .u64 S.tp.n) ∧ V2.cell? ⟨b, 9, none⟩ = some (.int .i64 S.tp.s) ∧ V2.cell? ⟨b, 10, none⟩ = some (.pointer none) ∧ w.heap.size < V2.heap.size ∧ b < V2.heap.size) := by
        have hbk := HS5.out
        rw [HST5.out] at hbk
        have hz := HZ5.out
        refine ⟨cell_of HL5.out, cell_of HL5.out, cell_of HL5.out, cell_of hbk, cell_of hbk, cell_of hbk, by omega, by omega⟩
      clear SB TL PN DR HX
      have SB : Hid (-9223372036854775808 ≤ Tm.sub now S.tp ∧ Tm.sub now S.tp ≤ 9223372036854775807) := subF_bounds _ _ _ _
      have TL : Hid _ := time_le (d := Tm.sub now S.tp) HP2.out HLT.out SB.out.1 SB.out.2
      have PN : Hid _ := (prod_bits (d := Tm.sub now S.tp) HP2.out HLT.out SB.out.1 SB.out.2).2
      have DR : Hid (-9223372036854775808 ≤ negW (closer mm p (Tm.sub now S.tp)) ∧ negW (closer mm p (Tm.sub now S.tp)) ≤ 9223372036854775807) := negW_range _
      have HX : Hid S.tp.ok := HTP.out
      refine wp_region_last (Rd V2 w.heap.size b 8 now S.tp) (fun w' => ∃ w0, Below V2.heap.size V2 w0 ∧ w' = set3 w0 b 8 (now.add (negW (closer mm p (Tm.sub now S.tp))))) (psi31_5 S b mm p now) 16 mixed ?h0 (by kernel_rfl) (by kernel_rfl) (by kernel_rfl) (by kernel_rfl) (by kernel_rfl) ?each ?last ?fin
      case h0 =>
        exact ⟨(Below.refl _ _).drew, RD5.out⟩
      case each =>
        simp only [List.dropLast, List.forall_mem_cons]
        refine ⟨?_, ?_, ?_, ?_, ?_, ?_, ?_, ?_, ?_, ?_, ?_, ?_, ?_, ?_, ?_, ?_, fun _ h => by cases h⟩
        · intro a w1 hC hs hn
          have h1' : a.tmps.getD 0 undef = .pointer (some ⟨b, 0, none⟩) := hs 0 (by kernel_rfl)
          clear hs hn
          unfold Oper.wp
          simp only [execOp, Act.eval, h1']
          exact ⟨_, rfl, fun t ht => by cases ht; rfl, hC⟩
        · intro a w1 hC hs hn
          have h1' : a.tmps.getD 3 undef = .pointer (some ⟨w.heap.size, 0, none⟩) := hs 3 (by kernel_rfl)
          have hc0 : w1.cell? ⟨w.heap.size, 0, none⟩ = some (.int .u64 now.n) := hC.cells.1
          have hc1 : w1.cell? ⟨w.heap.size, 1, none⟩ = some (.int .i64 now.s) := hC.cells.2.1
          have hc2 : w1.cell? ⟨w.heap.size, 2, none⟩ = some (.pointer none) := hC.cells.2.2.1
          have HC : Hid _ := hC
          clear hs hn hC
          unfold Oper.wp
          simp only [execOp, Act.eval, h1']
          go_simp
          exact ⟨_, rfl, rfl, HC.out⟩
        · intro a w1 hC hs hn
          have h1' : a.tmps.getD 5 undef = .float .f64 (fracF mm p) := hs 5 (by kernel_rfl)
          clear hs hn
          unfold Oper.wp
          simp only [execOp, Act.eval, h1']
          exact ⟨_, rfl, fun t ht => by cases ht; rfl, hC⟩
        · intro a w1 hC hs hn
          have h1' : a.tmps.getD 3 undef = .pointer (some ⟨w.heap.size, 0, none⟩) := hs 3 (by kernel_rfl)
          have hc0 : w1.cell? ⟨w.heap.size, 0, none⟩ = some (.int .u64 now.n) := hC.cells.1
          have hc1 : w1.cell? ⟨w.heap.size, 1, none⟩ = some (.int .i64 now.s) := hC.cells.2.1
          have hc2 : w1.cell? ⟨w.heap.size, 2, none⟩ = some (.pointer none) := hC.cells.2.2.1
          have HC : Hid _ := hC
          clear hs hn hC
          unfold Oper.wp
          simp only [execOp, Act.eval, h1']
          go_simp
          exact ⟨_, rfl, rfl, HC.out⟩
        · intro a w1 hC hs hn
          have h1' : a.tmps.getD 0 undef = .pointer (some ⟨b, 0, none⟩) := hs 0 (by kernel_rfl)
          clear hs hn
          unfold Oper.wp
          simp only [execOp, Act.eval, h1']
          exact ⟨_, rfl, fun t ht => by cases ht; rfl, hC⟩
        · intro a w1 hC hs hn
          have h1' : a.tmps.getD 45 undef = .pointer (some ⟨b, 0, none⟩) := hn 45 (by kernel_rfl)
          have HC : Hid _ := hC
          clear hs hn hC
          unfold Oper.wp
          simp only [execOp, Act.eval, h1']
          go_simp
          exact ⟨_, rfl, rfl, HC.out⟩
        · intro a w1 hC hs hn
          have h1' : a.tmps.getD 46 undef = .pointer (some ⟨b, 0, none⟩) := hn 46 (by kernel_rfl)
          have HC : Hid _ := hC
          clear hs hn hC
          unfold Oper.wp
          simp only [execOp, Act.eval, h1']
          go_simp
          exact ⟨_, rfl, rfl, HC.out⟩
        · intro a w1 hC hs hn
          have h1' : a.tmps.getD 47 undef = .pointer (some ⟨b, 8, none⟩) := hn 47 (by kernel_rfl)
          have hc0 : w1.cell? ⟨b, 8, none⟩ = some (.int .u64 S.tp.n) := hC.cells.2.2.2.1
          have hc1 : w1.cell? ⟨b, 9, none⟩ = some (.int .i64 S.tp.s) := hC.cells.2.2.2.2.1
          have hc2 : w1.cell? ⟨b, 10, none⟩ = some (.pointer none) := hC.cells.2.2.2.2.2.1
          have HC : Hid _ := hC
          clear hs hn hC
          unfold Oper.wp
          simp only [execOp, Act.eval, h1']
          go_simp
          exact ⟨_, rfl, rfl, HC.out⟩
        · intro a w1 hC hs hn
          have h0' : a.tmps.getD 44 undef = tv now.n now.s := hn 44 (by kernel_rfl)
          have h1' : a.tmps.getD 48 undef = tv S.tp.n S.tp.s := hn 48 (by kernel_rfl)
          clear hs hn
          unfold Oper.wp
          simp only [execOp, Act.eval, h0', h1']
          go_simp
          refine (sub_any _ _ _ _ w1 HNW.out.1 HNW.out.2 HX.out.1 HX.out.2).mono ?_
          rintro e w2 ⟨rfl, hb⟩
          exact ⟨_, rfl, rfl, hC.step hb⟩
        · intro a w1 hC hs hn
          have h0' : a.tmps.getD 49 undef = .int .i64 (Tm.sub now S.tp) := hn 49 (by kernel_rfl)
          clear hs hn
          unfold Oper.wp
          simp only [execOp, Act.eval, h0']
          go_simp
          refine (sec_det _ w1 SB.out.1 SB.out.2).mono ?_
          rintro e w2 ⟨rfl, hb⟩
          exact ⟨_, rfl, rfl, hC.step hb⟩
        · intro a w1 hC hs hn
          have h1' : a.tmps.getD 43 undef = .float .f64 (fracF mm p) := hn 43 (by kernel_rfl)
          have h2' : a.tmps.getD 50 undef = .float .f64 (secF (Tm.sub now S.tp)) := hn 50 (by kernel_rfl)
          have HC : Hid _ := hC
          clear hs hn hC
          unfold Oper.wp
          simp only [execOp, Act.eval, h1', h2']
          go_simp
          exact ⟨_, rfl, rfl, HC.out⟩
        · intro a w1 hC hs hn
          have h0' : a.tmps.getD 51 undef = .float .f64 (fop .mul (fracF mm p) (secF (Tm.sub now S.tp))) := hn 51 (by kernel_rfl)
          clear hs hn
          unfold Oper.wp
          simp only [execOp, Act.eval, h0']
          go_simp
          refine (dur49 TL.out PN.out w1).mono ?_
          rintro e w2 ⟨rfl, hb⟩
          exact ⟨_, rfl, rfl, hC.step hb⟩
        · intro a w1 hC hs hn
          have h1' : a.tmps.getD 52 undef = .int .i64 (closer mm p (Tm.sub now S.tp)) := hn 52 (by kernel_rfl)
          have HC : Hid _ := hC
          clear hs hn hC
          unfold Oper.wp
          simp only [execOp, Act.eval, h1']
          go_simp
          exact ⟨_, rfl, rfl, HC.out⟩
        · intro a w1 hC hs hn
          have h0' : a.tmps.getD 42 undef = tv now.n now.s := hn 42 (by kernel_rfl)
          have h1' : a.tmps.getD 53 undef = .int .i64 (negW (closer mm p (Tm.sub now S.tp))) := hn 53 (by kernel_rfl)
          clear hs hn
          unfold Oper.wp
          simp only [execOp, Act.eval, h0', h1']
          go_simp
          refine (add_any _ _ _ w1 HNW.out.1 HNW.out.2 DR.out.1 DR.out.2).mono ?_
          rintro e w2 ⟨rfl, hb⟩
          exact ⟨_, rfl, rfl, hC.step hb⟩
        · intro a w1 hC hs hn
          have h1' : a.tmps.getD 41 undef = .pointer (some ⟨b, 0, none⟩) := hn 41 (by kernel_rfl)
          have HC : Hid _ := hC
          clear hs hn hC
          unfold Oper.wp
          simp only [execOp, Act.eval, h1']
          go_simp
          exact ⟨_, rfl, rfl, HC.out⟩
        · intro a w1 hC hs hn
          have h1' : a.tmps.getD 55 undef = .pointer (some ⟨b, 0, none⟩) := hn 55 (by kernel_rfl)
          have HC : Hid _ := hC
          clear hs hn hC
          unfold Oper.wp
          simp only [execOp, Act.eval, h1']
          go_simp
          exact ⟨_, rfl, rfl, HC.out⟩

      case last =>
        simp only [List.getLast?, List.getLast, Option.mem_def, Option.some.injEq]
        rintro o rfl
        intro a w1 hC hs hn
        have h1' : a.tmps.getD 56 undef = .pointer (some ⟨b, 8, none⟩) := hn 56 (by kernel_rfl)
        have h2' : a.tmps.getD 54 undef = tv (now.add (negW (closer mm p (Tm.sub now S.tp)))).n (now.add (negW (closer mm p (Tm.sub now S.tp)))).s := hn 54 (by kernel_rfl)
        have hc0 : w1.cell? ⟨b, 8, none⟩ = some (.int .u64 S.tp.n) := hC.cells.2.2.2.1
        have hc1 : w1.cell? ⟨b, 9, none⟩ = some (.int .i64 S.tp.s) := hC.cells.2.2.2.2.1
        have hc2 : w1.cell? ⟨b, 10, none⟩ = some (.pointer none) := hC.cells.2.2.2.2.2.1
        have hbk : w1.heap[b]? = some (.cells ST5.cells 58) := (hC.bel.block b hC.cells.2.2.2.2.2.2.2).trans HS5.out
        have hf0 : w1.frozen? ⟨b, 8, none⟩ = false := frozen_of hbk
        have hf1 : w1.frozen? ⟨b, 9, none⟩ = false := frozen_of hbk
        have hf2 : w1.frozen? ⟨b, 10, none⟩ = false := frozen_of hbk
        clear hs hn hbk
        unfold Oper.wp
        unfold tv at h2'
        simp only [execOp, Act.eval, h1', h2']
        have HC : Hid _ := hC.bel
        clear hC
        go_simp
        exact ⟨w1, HC.out, rfl⟩
      case fin =>
        intro f w1 hC hs hp
        obtain ⟨w0', hb0, rfl⟩ := hC
        have e0 : f 0 = .pointer (some ⟨b, 0, none⟩) := hs 0 (by kernel_rfl)
        have e4 : f 4 = .int .i64 mm := hs 4 (by kernel_rfl)
        clear hs hp
        have hbk : w0'.heap[b]? = some (.cells ST5.cells 58) := (hb0.block b RD5.out.2.2.2.2.2.2.2).trans HS5.out
        rw [HST5.out] at hbk
        have h3 : (set3 w0' b 8 (now.add (negW (closer mm p (now.sub S.tp))))).heap[b]? = some (.cells ({ S with tn := now.add (closer mm p (S.tn.sub now)), tp := now.add (negW (closer mm p (now.sub S.tp))) } : StV).cells 58) := (set3_heap (i := 8) hbk (now.add (negW (closer mm p (now.sub S.tp))))).trans (by simp [StV.cells])
        have TW6 : Hid (Two b b w (set3 w0' b 8 (now.add (negW (closer mm p (now.sub S.tp)))))) := set3_two (TW5.out.trans ⟨hb0.os, hb0.tape, hb0.output, hb0.size, fun k hk _ _ => hb0.block k hk⟩) _ _
        have q7 : (set3 w0' b 8 (now.add (negW (closer mm p (now.sub S.tp))))).cell? ⟨b, 7, none⟩ = some (.int .i64 S.pm) := cell_of h3
        have f7 : (set3 w0' b 8 (now.add (negW (closer mm p (now.sub S.tp))))).frozen? ⟨b, 7, none⟩ = false := frozen_of h3
        have HF : Hid (((set3 w0' b 8 (now.add (negW (closer mm p (now.sub S.tp))))).setCell ⟨b, 7, none⟩ (.int .i64 mm)).heap[b]? = some (.cells ({ S with tn := now.add (closer mm p (S.tn.sub now)), tp := now.add (negW (closer mm p (now.sub S.tp))), pm := mm } : StV).cells 58)) := (heap_set h3 _).trans (by simp [StV.cells])
        clear hbk h3 hb0
        simp only [List.size_toArray, List.length_cons, List.length_nil, List.range, List.range.loop, List.map_cons, List.map_nil, e0, e4]
        generalize set3 w0' b 8 (now.add (negW (closer mm p (now.sub S.tp)))) = V3 at q7 f7 HF TW6 ⊢
        clear e0 e4
        go_wp2_with fail
        go_end0
        refine ⟨rfl, ?_, TW6.out.setCell _ _⟩
        rw [ER.out]
        exact HF.out
  · have ER : Hid (recoS S c p now = S) := by show recoS S c p now = _; unfold recoS; rw [if_neg hlt]
    have hge : (p : Int) ≤ (c : Int) + 1 := by omega
    go_enter Ybaz.func31, Ybaz.ntmps31
    unfold tv
    go_wp2_with fail
    refine bodyPost_ret (results_none rfl _ _ _) rfl ⟨rfl, ?_, Two.below HB.out⟩
    rw [ER.out]
    exact (HB.out.block b g2).trans HS.out
end Go.Proofs.YbulkdsruGreatDoor
