import Derived.Test.YbulkdswqDoorRows
import Derived.Test.YbulkdswqDoorSeek
import Derived.Test.YbulkdswqDoorEach
import Derived.WalkSpells
namespace Go.Proofs.YbulkdswqDoor
open Go.RowKit
set_option linter.unusedVariables false

theorem mixed : Ybad.prog.follows .mixedOrders = true := by kernel_rfl

/-- A slot that holds a float, up to a NaN's bits. -/
def isF (x : Nat) (v : Value) : Prop := ∃ r, v = .float .f64 r ∧ cn r = x

def psi44 (B0 y0 y1 y2 : Nat) : Nat → Value → Prop
  | 5 => fun v => v = .pointer (some ⟨B0, 1, none⟩)
  | 6 => fun v => isF (cn y1) v
  | 7 => fun v => v = .pointer (some ⟨B0, 0, none⟩)
  | 8 => fun v => isF (cn y0) v
  | 9 => fun v => isF (fop .sub (cn y1) (cn y0)) v
  | 10 => fun v => v = .pointer (some ⟨B0, 2, none⟩)
  | 11 => fun v => isF (cn y2) v
  | 12 => fun v => v = .pointer (some ⟨B0, 1, none⟩)
  | 13 => fun v => isF (cn y1) v
  | 14 => fun v => isF (fop .sub (cn y2) (cn y1)) v
  | 2 => fun v => isF (fop .sub (cn y1) (cn y0)) v
  | 3 => fun v => isF (fop .sub (cn y2) (cn y1)) v
  | _ => fun _ => True

set_option maxHeartbeats 1000000 in
theorem diff_any (y0 y1 y2 : Nat) (w : World) :
    Calls Ybad.prog 44 #[.agg #[.float .f64 y0, .float .f64 y1, .float .f64 y2]] w fun e w' => ∃ a b c, e = .returned (.tuple #[.float .f64 a, .float .f64 b, .float .f64 c]) ∧ cn a = fop .sub (cn y1) (cn y0) ∧ cn b = fop .sub (cn y2) (cn y1) ∧ cn c = fop .sub (fop .sub (cn y2) (cn y1)) (fop .sub (cn y1) (cn y0)) ∧ Below w.heap.size w w' := by
  go_enter Ybad.func44, Ybad.ntmps44
  go_wp2_with fail
  refine wp_region_each (fun w' => Below (w.heap.size + 1) (w.alloc (.cells #[.float .f64 y0, .float .f64 y1, .float .f64 y2] 39)) w') (psi44 w.heap.size y0 y1 y2) mixed (Below.refl _ _).drew (by kernel_rfl) (by kernel_rfl) (by kernel_rfl) ?each ?fin
  case each =>
    simp only [List.forall_mem_cons]
    refine ⟨?_, ?_, ?_, ?_, ?_, ?_, ?_, ?_, ?_, ?_, ?_, ?_, fun _ h => by cases h⟩
    · intro a w1 hC hs hn
      have h1 : a.tmps.getD 1 undef = .pointer (some ⟨w.heap.size, 0, none⟩) := hs 1 (by kernel_rfl)
      clear hs hn
      unfold Oper.wp
      simp only [execOp, Act.eval, h1]
      go_simp
      exact ⟨_, rfl, rfl⟩
    · intro a w1 hC hs hn
      have h1 : a.tmps.getD 5 undef = .pointer (some ⟨w.heap.size, 1, none⟩) := hn 5 (by kernel_rfl)
      have hc : w1.cell? ⟨w.heap.size, 1, none⟩ = some (.float .f64 y1) := (hC.cell (p := ⟨w.heap.size, 1, none⟩) (by simp)).trans (by simp [go_sem])
      clear hs hn
      unfold Oper.wp
      simp only [execOp, Act.eval, h1]
      go_simp
      exact ⟨_, rfl, _, rfl, rfl⟩
    · intro a w1 hC hs hn
      have h1 : a.tmps.getD 1 undef = .pointer (some ⟨w.heap.size, 0, none⟩) := hs 1 (by kernel_rfl)
      clear hs hn
      unfold Oper.wp
      simp only [execOp, Act.eval, h1]
      go_simp
      exact ⟨_, rfl, rfl⟩
    · intro a w1 hC hs hn
      have h1 : a.tmps.getD 7 undef = .pointer (some ⟨w.heap.size, 0, none⟩) := hn 7 (by kernel_rfl)
      have hc : w1.cell? ⟨w.heap.size, 0, none⟩ = some (.float .f64 y0) := (hC.cell (p := ⟨w.heap.size, 0, none⟩) (by simp)).trans (by simp [go_sem])
      clear hs hn
      unfold Oper.wp
      simp only [execOp, Act.eval, h1]
      go_simp
      exact ⟨_, rfl, _, rfl, rfl⟩
    · intro a w1 hC hs hn
      obtain ⟨ra, ea, ca⟩ := hn 6 (by kernel_rfl)
      obtain ⟨rb, eb, cb⟩ := hn 8 (by kernel_rfl)
      clear hs hn
      unfold Oper.wp
      simp only [execOp, Act.eval, ea, eb]
      go_simp
      refine upon_float (by simp) ?_
      intro r n s
      exact ⟨_, rfl, ⟨r, rfl, by rw [s.out, ca, cb]⟩, below_drewN hC _⟩
    · intro a w1 hC hs hn
      have h1 : a.tmps.getD 1 undef = .pointer (some ⟨w.heap.size, 0, none⟩) := hs 1 (by kernel_rfl)
      clear hs hn
      unfold Oper.wp
      simp only [execOp, Act.eval, h1]
      go_simp
      exact ⟨_, rfl, rfl⟩
    · intro a w1 hC hs hn
      have h1 : a.tmps.getD 10 undef = .pointer (some ⟨w.heap.size, 2, none⟩) := hn 10 (by kernel_rfl)
      have hc : w1.cell? ⟨w.heap.size, 2, none⟩ = some (.float .f64 y2) := (hC.cell (p := ⟨w.heap.size, 2, none⟩) (by simp)).trans (by simp [go_sem])
      clear hs hn
      unfold Oper.wp
      simp only [execOp, Act.eval, h1]
      go_simp
      exact ⟨_, rfl, _, rfl, rfl⟩
    · intro a w1 hC hs hn
      have h1 : a.tmps.getD 1 undef = .pointer (some ⟨w.heap.size, 0, none⟩) := hs 1 (by kernel_rfl)
      clear hs hn
      unfold Oper.wp
      simp only [execOp, Act.eval, h1]
      go_simp
      exact ⟨_, rfl, rfl⟩
    · intro a w1 hC hs hn
      have h1 : a.tmps.getD 12 undef = .pointer (some ⟨w.heap.size, 1, none⟩) := hn 12 (by kernel_rfl)
      have hc : w1.cell? ⟨w.heap.size, 1, none⟩ = some (.float .f64 y1) := (hC.cell (p := ⟨w.heap.size, 1, none⟩) (by simp)).trans (by simp [go_sem])
      clear hs hn
      unfold Oper.wp
      simp only [execOp, Act.eval, h1]
      go_simp
      exact ⟨_, rfl, _, rfl, rfl⟩
    · intro a w1 hC hs hn
      obtain ⟨ra, ea, ca⟩ := hn 11 (by kernel_rfl)
      obtain ⟨rb, eb, cb⟩ := hn 13 (by kernel_rfl)
      clear hs hn
      unfold Oper.wp
      simp only [execOp, Act.eval, ea, eb]
      go_simp
      refine upon_float (by simp) ?_
      intro r n s
      exact ⟨_, rfl, ⟨r, rfl, by rw [s.out, ca, cb]⟩, below_drewN hC _⟩
    · intro a w1 hC hs hn
      obtain ⟨ra, ea, ca⟩ := hn 9 (by kernel_rfl)
      clear hs hn
      unfold Oper.wp
      simp only [execOp, Act.eval, ea]
      exact ⟨_, rfl, fun t ht => by cases ht; exact ⟨ra, rfl, ca⟩, hC⟩
    · intro a w1 hC hs hn
      obtain ⟨ra, ea, ca⟩ := hn 14 (by kernel_rfl)
      clear hs hn
      unfold Oper.wp
      simp only [execOp, Act.eval, ea]
      exact ⟨_, rfl, fun t ht => by cases ht; exact ⟨ra, rfl, ca⟩, hC⟩
  case fin =>
    intro f w1 hC hs hp
    obtain ⟨r2, e2, c2⟩ := hp 2 (by kernel_rfl)
    obtain ⟨r3, e3, c3⟩ := hp 3 (by kernel_rfl)
    have HB : Hid (Below w.heap.size w w1) := ((Below.refl _ _).alloc (Nat.le_refl _) _).trans (hC.mono (by omega))
    have C2 : Hid _ := c2
    have C3 : Hid _ := c3
    clear hs hp hC c2 c3
    simp only [List.size_toArray, List.length_cons, List.length_nil, List.range, List.range.loop, List.map_cons, List.map_nil, e2, e3]
    go_wp2_with fail
    refine upon_float (by simp) ?_
    intro r4 n4 s4
    go_wp2_with fail
    go_ret3
    exact ⟨r2, r3, r4, rfl, C2.out, C3.out, by rw [s4.out, C2.out, C3.out], below_drewN HB.out _⟩

theorem bcell {W w1 : World} (hb : Below W.heap.size W w1) : (∀ b o, b < W.heap.size → w1.cell? ⟨b, o, none⟩ = W.cell? ⟨b, o, none⟩) ∧ (∀ b o, b < W.heap.size → w1.frozen? ⟨b, o, none⟩ = W.frozen? ⟨b, o, none⟩) :=
  ⟨fun b o h => hb.cell (p := ⟨b, o, none⟩) h, fun b o h => hb.frozen (p := ⟨b, o, none⟩) h⟩

theorem cn_two : cn 4611686018427387904 = dtwo := by decide

/-- The parabola through three rows at n; its slope. -/
def atF (y0 y1 y2 n : Nat) : Nat :=
  fop .add y1 (fop .mul (fop .quo n dtwo) (fop .add (fop .add (fop .sub y1 y0) (fop .sub y2 y1)) (fop .mul n (fop .sub (fop .sub y2 y1) (fop .sub y1 y0)))))
def slF (y0 y1 y2 n : Nat) : Nat :=
  fop .add (fop .quo (fop .add (fop .sub y1 y0) (fop .sub y2 y1)) dtwo) (fop .mul n (fop .sub (fop .sub y2 y1) (fop .sub y1 y0)))

set_option maxHeartbeats 1000000 in
theorem at_any (y0 y1 y2 n : Nat) (w : World) :
    Calls Ybad.prog 43 #[.agg #[.float .f64 y0, .float .f64 y1, .float .f64 y2], .float .f64 n] w fun e w' => ∃ r, e = .returned (.float .f64 r) ∧ cn r = atF (cn y0) (cn y1) (cn y2) (cn n) ∧ Below w.heap.size w w' := by
  go_enter Ybad.func43, Ybad.ntmps43
  go_wp2_with fail
  refine (diff_any _ _ _ _).mono ?_
  rintro e w1 ⟨a, b, c, rfl, ha, hb, hc, hbel⟩
  have HA : Hid _ := ha
  have HB : Hid _ := hb
  have HC : Hid _ := hc
  have h1 : w1.cell? ⟨w.heap.size, 1, none⟩ = some (.float .f64 y1) := ((bcell hbel).1 w.heap.size 1 (by simp)).trans (by simp [go_sem])
  clear ha hb hc
  go_wp2_with fail
  refine upon_float (by simp) ?_
  intro r1 n1 s1
  go_wp2_with fail
  refine upon_float (by simp) ?_
  intro r2 n2 s2
  go_wp2_with fail
  refine upon_float (by simp) ?_
  intro r3 n3 s3
  go_wp2_with fail
  refine upon_float (by simp) ?_
  intro r4 n4 s4
  go_wp2_with fail
  refine upon_float (by simp) ?_
  intro r5 n5 s5
  go_wp2_with fail
  refine upon_float (by simp) ?_
  intro r6 n6 s6
  go_wp2_with fail
  go_ret
  refine ⟨r6, rfl, ?_, below_drewN (((Below.refl _ _).alloc (Nat.le_refl _) _).trans (hbel.mono (by simp))) _⟩
  rw [s6.out, s5.out, s4.out, s3.out, s2.out, s1.out, HA.out, HB.out, HC.out, cn_two]
  rfl

set_option maxHeartbeats 1000000 in
theorem slope_any (y0 y1 y2 n : Nat) (w : World) :
    Calls Ybad.prog 35 #[.agg #[.float .f64 y0, .float .f64 y1, .float .f64 y2], .float .f64 n] w fun e w' => ∃ r, e = .returned (.float .f64 r) ∧ cn r = slF (cn y0) (cn y1) (cn y2) (cn n) ∧ Below w.heap.size w w' := by
  go_enter Ybad.func35, Ybad.ntmps35
  go_wp2_with fail
  refine (diff_any _ _ _ _).mono ?_
  rintro e w1 ⟨a, b, c, rfl, ha, hb, hc, hbel⟩
  have HA : Hid _ := ha
  have HB : Hid _ := hb
  have HC : Hid _ := hc
  clear ha hb hc
  go_wp2_with fail
  refine upon_float (by simp) ?_
  intro r1 n1 s1
  go_wp2_with fail
  refine upon_float (by simp) ?_
  intro r2 n2 s2
  go_wp2_with fail
  refine upon_float (by simp) ?_
  intro r3 n3 s3
  go_wp2_with fail
  refine upon_float (by simp) ?_
  intro r4 n4 s4
  go_wp2_with fail
  go_ret
  refine ⟨r4, rfl, ?_, below_drewN (((Below.refl _ _).alloc (Nat.le_refl _) _).trans (hbel.mono (by simp))) _⟩
  rw [s4.out, s3.out, s2.out, s1.out, HA.out, HB.out, HC.out, cn_two]
  rfl
end Go.Proofs.YbulkdswqDoor
