import Derived.Test.YbulkdswqDoorWalkE
namespace Go.Proofs.YbulkdswqDoor
open Go.RowKit Go.Op
set_option linter.unusedVariables false
set_option linter.unusedSimpArgs false

def isG (x : Nat) (v : Value) : Prop := ∃ r, v = .float .f64 r ∧ cn r = x ∧ r < 2 ^ 64
def psi34 (B0 N L x0 x1 x2 x3 x4 x5 x6 x7 x8 x9 x10 x11 x12 : Nat) : Nat → Value → Prop
  | 17 => fun v => isF L v
  | 18 => fun v => v = .pointer (some ⟨B0, 0, none⟩)
  | 19 => fun v => isF (cn x0) v
  | 20 => fun v => isG (fop .add L (cn x0)) v
  | 21 => fun v => v = .pointer (some ⟨B0, 4, none⟩)
  | 22 => fun v => v = .agg #[.float .f64 x4, .float .f64 x5, .float .f64 x6]
  | 23 => fun v => isF N v
  | 24 => fun v => isG (atF (cn x4) (cn x5) (cn x6) N) v
  | 25 => fun v => isG (fop .sub (fop .add L (cn x0)) (atF (cn x4) (cn x5) (cn x6) N)) v
  | 26 => fun v => v = .pointer (some ⟨B0, 7, none⟩)
  | 27 => fun v => v = .agg #[.float .f64 x7, .float .f64 x8, .float .f64 x9]
  | 28 => fun v => isF N v
  | 29 => fun v => isG (atF (cn x7) (cn x8) (cn x9) N) v
  | 4 => fun v => isG (fop .sub (fop .add L (cn x0)) (atF (cn x4) (cn x5) (cn x6) N)) v
  | 5 => fun v => isG (atF (cn x7) (cn x8) (cn x9) N) v
  | _ => fun _ => True

def WW : Nat := 4618779624793909604
theorem cn_WW : cn 4618779624793909604 = WW := by decide

set_option maxHeartbeats 2000000 in
theorem at34_any (x0 x1 x2 x3 x4 x5 x6 x7 x8 x9 x10 x11 x12 t : Nat) (w : World) :
    Calls Ybad.prog 34 #[.agg #[.float .f64 x0, .float .f64 x1, .float .f64 x2, .float .f64 x3, .float .f64 x4, .float .f64 x5, .float .f64 x6, .float .f64 x7, .float .f64 x8, .float .f64 x9, .float .f64 x10, .float .f64 x11, .float .f64 x12], .float .f64 t] w fun e w' => ∃ a b, e = .returned (.tuple #[.float .f64 a, .float .f64 b]) ∧ cn a = fop .sub (fop .add (fop .add (cn x3) (fop .mul WW (cn t))) (cn x0)) (atF (cn x4) (cn x5) (cn x6) (fop .add (cn t) (cn x10))) ∧ cn b = atF (cn x7) (cn x8) (cn x9) (fop .add (cn t) (cn x10)) ∧ a < 2 ^ 64 ∧ b < 2 ^ 64 ∧ Below w.heap.size w w' := by
  go_enter Ybad.func34, Ybad.ntmps34
  go_wp2_with fail
  refine upon_float (by simp) ?_
  intro r1 n1 s1
  go_wp2_with fail
  refine upon_float (by simp) ?_
  intro r2 n2 s2
  go_wp2_with fail
  refine upon_float (by simp) ?_
  intro r3 n3 s3
  go_wp2_with fail
  have Hr1 : Hid (cn r1 = fop .add (cn t) (cn x10)) := s1
  have Hr3 : Hid (cn r3 = fop .add (cn x3) (fop .mul WW (cn t))) := by show cn r3 = _; rw [s3.out, s2.out, cn_WW]
  clear s1 s2 s3
  refine wp_region_each (fun w' => Below (w.heap.size + 1) (w.alloc (.cells #[.float .f64 x0, .float .f64 x1, .float .f64 x2, .float .f64 x3, .float .f64 x4, .float .f64 x5, .float .f64 x6, .float .f64 x7, .float .f64 x8, .float .f64 x9, .float .f64 x10, .float .f64 x11, .float .f64 x12] 41)) w') (psi34 w.heap.size (fop .add (cn t) (cn x10)) (fop .add (cn x3) (fop .mul WW (cn t))) x0 x1 x2 x3 x4 x5 x6 x7 x8 x9 x10 x11 x12) mixed (below_drewN (Below.refl _ _) _).drew (by kernel_rfl) (by kernel_rfl) (by kernel_rfl) ?each ?fin
  case each =>
    simp only [List.forall_mem_cons]
    refine ⟨?_, ?_, ?_, ?_, ?_, ?_, ?_, ?_, ?_, ?_, ?_, ?_, ?_, ?_, ?_, fun _ h => by cases h⟩
    · intro a w1 hC hs hn
      have h1 : a.tmps.getD 7 undef = .float .f64 r3 := hs 7 (by kernel_rfl)
      clear hs hn
      unfold Oper.wp
      simp only [execOp, Act.eval, h1]
      exact ⟨_, rfl, fun t ht => by cases ht; exact ⟨r3, rfl, Hr3.out⟩, hC⟩
    · intro a w1 hC hs hn
      have h1 : a.tmps.getD 2 undef = .pointer (some ⟨w.heap.size, 0, none⟩) := hs 2 (by kernel_rfl)
      clear hs hn
      unfold Oper.wp
      simp only [execOp, Act.eval, h1]
      go_simp
      exact ⟨_, rfl, rfl⟩
    · intro a w1 hC hs hn
      have h1 : a.tmps.getD 18 undef = .pointer (some ⟨w.heap.size, 0, none⟩) := hn 18 (by kernel_rfl)
      have hc : w1.cell? ⟨w.heap.size, 0, none⟩ = some (.float .f64 x0) := (hC.cell (p := ⟨w.heap.size, 0, none⟩) (by simp)).trans (by simp [go_sem])
      clear hs hn
      unfold Oper.wp
      simp only [execOp, Act.eval, h1]
      go_simp
      exact ⟨_, rfl, _, rfl, rfl⟩
    · intro a w1 hC hs hn
      obtain ⟨ra, ea, ca⟩ := hn 17 (by kernel_rfl)
      obtain ⟨rb, eb, cb⟩ := hn 19 (by kernel_rfl)
      clear hs hn
      unfold Oper.wp
      simp only [execOp, Act.eval, ea, eb]
      go_simp
      refine upon_float64 (by simp) ?_
      intro r n s l
      exact ⟨_, rfl, ⟨r, rfl, by rw [s.out, ca, cb], l.out⟩, below_drewN hC _⟩
    · intro a w1 hC hs hn
      have h1 : a.tmps.getD 2 undef = .pointer (some ⟨w.heap.size, 0, none⟩) := hs 2 (by kernel_rfl)
      clear hs hn
      unfold Oper.wp
      simp only [execOp, Act.eval, h1]
      go_simp
      exact ⟨_, rfl, rfl⟩
    · intro a w1 hC hs hn
      have h1 : a.tmps.getD 21 undef = .pointer (some ⟨w.heap.size, 4, none⟩) := hn 21 (by kernel_rfl)
      have hc0 : w1.cell? ⟨w.heap.size, 4, none⟩ = some (.float .f64 x4) := (hC.cell (p := ⟨w.heap.size, 4, none⟩) (by simp)).trans (by simp [go_sem])
      have hc1 : w1.cell? ⟨w.heap.size, 5, none⟩ = some (.float .f64 x5) := (hC.cell (p := ⟨w.heap.size, 5, none⟩) (by simp)).trans (by simp [go_sem])
      have hc2 : w1.cell? ⟨w.heap.size, 6, none⟩ = some (.float .f64 x6) := (hC.cell (p := ⟨w.heap.size, 6, none⟩) (by simp)).trans (by simp [go_sem])
      clear hs hn
      unfold Oper.wp
      simp only [execOp, Act.eval, h1]
      go_simp
      exact ⟨_, rfl, rfl⟩
    · intro a w1 hC hs hn
      have h1 : a.tmps.getD 6 undef = .float .f64 r1 := hs 6 (by kernel_rfl)
      clear hs hn
      unfold Oper.wp
      simp only [execOp, Act.eval, h1]
      exact ⟨_, rfl, fun t ht => by cases ht; exact ⟨r1, rfl, Hr1.out⟩, hC⟩
    · intro a w1 hC hs hn
      have h1 : a.tmps.getD 22 undef = .agg #[.float .f64 x4, .float .f64 x5, .float .f64 x6] := hn 22 (by kernel_rfl)
      obtain ⟨rb, eb, cb⟩ := hn 23 (by kernel_rfl)
      clear hs hn
      unfold Oper.wp
      simp only [execOp, Act.eval, h1, eb]
      go_simp
      refine (at_any64 _ _ _ _ _).mono ?_
      rintro e w2 ⟨r, rfl, c, l, hb⟩
      exact ⟨_, rfl, ⟨r, rfl, by rw [c, cb], l⟩, hC.trans (hb.mono (by have := hC.size; simpa using this))⟩
    · intro a w1 hC hs hn
      obtain ⟨ra, ea, ca, _⟩ := hn 20 (by kernel_rfl)
      obtain ⟨rb, eb, cb, _⟩ := hn 24 (by kernel_rfl)
      clear hs hn
      unfold Oper.wp
      simp only [execOp, Act.eval, ea, eb]
      go_simp
      refine upon_float64 (by simp) ?_
      intro r n s l
      exact ⟨_, rfl, ⟨r, rfl, by rw [s.out, ca, cb], l.out⟩, below_drewN hC _⟩
    · intro a w1 hC hs hn
      have h1 : a.tmps.getD 2 undef = .pointer (some ⟨w.heap.size, 0, none⟩) := hs 2 (by kernel_rfl)
      clear hs hn
      unfold Oper.wp
      simp only [execOp, Act.eval, h1]
      go_simp
      exact ⟨_, rfl, rfl⟩
    · intro a w1 hC hs hn
      have h1 : a.tmps.getD 26 undef = .pointer (some ⟨w.heap.size, 7, none⟩) := hn 26 (by kernel_rfl)
      have hc0 : w1.cell? ⟨w.heap.size, 7, none⟩ = some (.float .f64 x7) := (hC.cell (p := ⟨w.heap.size, 7, none⟩) (by simp)).trans (by simp [go_sem])
      have hc1 : w1.cell? ⟨w.heap.size, 8, none⟩ = some (.float .f64 x8) := (hC.cell (p := ⟨w.heap.size, 8, none⟩) (by simp)).trans (by simp [go_sem])
      have hc2 : w1.cell? ⟨w.heap.size, 9, none⟩ = some (.float .f64 x9) := (hC.cell (p := ⟨w.heap.size, 9, none⟩) (by simp)).trans (by simp [go_sem])
      clear hs hn
      unfold Oper.wp
      simp only [execOp, Act.eval, h1]
      go_simp
      exact ⟨_, rfl, rfl⟩
    · intro a w1 hC hs hn
      have h1 : a.tmps.getD 6 undef = .float .f64 r1 := hs 6 (by kernel_rfl)
      clear hs hn
      unfold Oper.wp
      simp only [execOp, Act.eval, h1]
      exact ⟨_, rfl, fun t ht => by cases ht; exact ⟨r1, rfl, Hr1.out⟩, hC⟩
    · intro a w1 hC hs hn
      have h1 : a.tmps.getD 27 undef = .agg #[.float .f64 x7, .float .f64 x8, .float .f64 x9] := hn 27 (by kernel_rfl)
      obtain ⟨rb, eb, cb⟩ := hn 28 (by kernel_rfl)
      clear hs hn
      unfold Oper.wp
      simp only [execOp, Act.eval, h1, eb]
      go_simp
      refine (at_any64 _ _ _ _ _).mono ?_
      rintro e w2 ⟨r, rfl, c, l, hb⟩
      exact ⟨_, rfl, ⟨r, rfl, by rw [c, cb], l⟩, hC.trans (hb.mono (by have := hC.size; simpa using this))⟩
    · intro a w1 hC hs hn
      obtain ⟨ra, ea, ca⟩ := hn 25 (by kernel_rfl)
      clear hs hn
      unfold Oper.wp
      simp only [execOp, Act.eval, ea]
      exact ⟨_, rfl, fun t ht => by cases ht; exact ⟨ra, rfl, ca⟩, hC⟩
    · intro a w1 hC hs hn
      obtain ⟨ra, ea, ca⟩ := hn 29 (by kernel_rfl)
      clear hs hn
      unfold Oper.wp
      simp only [execOp, Act.eval, ea]
      exact ⟨_, rfl, fun t ht => by cases ht; exact ⟨ra, rfl, ca⟩, hC⟩
  case fin =>
    intro f w1 hC hs hp
    obtain ⟨r2, e2, c2, l2⟩ := hp 4 (by kernel_rfl)
    obtain ⟨r4, e4, c4, l4⟩ := hp 5 (by kernel_rfl)
    have HB : Hid (Below w.heap.size w w1) := ((Below.refl _ _).alloc (Nat.le_refl _) _).trans (hC.mono (by omega))
    have C2 : Hid _ := c2
    have C3 : Hid _ := c4
    have L2 : Hid _ := l2
    have L3 : Hid _ := l4
    clear hs hp hC c2 c4 l2 l4
    simp only [List.size_toArray, List.length_cons, List.length_nil, List.range, List.range.loop, List.map_cons, List.map_nil, e2, e4]
    go_wp2_with fail
    go_ret2
    exact ⟨_, _, rfl, C2.out, C3.out, L2.out, L3.out, HB.out⟩
end Go.Proofs.YbulkdswqDoor
