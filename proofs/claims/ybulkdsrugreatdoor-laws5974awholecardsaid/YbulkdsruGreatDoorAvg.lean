import Derived.Test.YbulkdsruGreatDoorHeard
import Derived.Test.YbulkdsruGreatDoorDur2
import Derived.Test.YbulkdsruGreatDoorEach2
namespace Go.Proofs.YbulkdsruGreatDoor
open Go.RowKit Go.Op Ieee
set_option linter.unusedVariables false
set_option linter.unusedSimpArgs false

theorem det {op : BinOp} {x y r : Nat} (h : floatBits op .f64 x y = some r) (t : TypeId) (W : World) : (binOp op t (.float .f64 x) (.float .f64 y)).run Ybaz.prog W = .ok (.float .f64 r) W :=
  run_float_arith W op t .f64 x y r h

def F16 : Nat := 4625196817309499392
theorem read_F16 : double.read F16 = .number false (2 ^ 52) (-48) := by decide

theorem read_cases {z : Nat} (h : isNaN z = false) : (∃ s m i, double.read z = .number s m i) ∨ ∃ s, double.read z = .infinity s := by
  unfold isNaN at h
  cases hr : double.read z with
  | number s m i => exact .inl ⟨_, _, _, rfl⟩
  | infinity s => exact .inr ⟨_, rfl⟩
  | nan s t => rw [hr] at h; simp [Datum.isNaN] at h

theorem quo_some {z : Nat} (h : isNaN z = false) : ∃ r, floatBits .quo .f64 z F16 = some r := by
  show ∃ r, ((double.read z).quotient 54 (double.read F16)).map double.write = some r
  rw [read_F16]
  rcases read_cases h with ⟨s, m, i, e⟩ | ⟨s, e⟩
  · rw [e]
    simp only [Datum.quotient]
    rw [if_neg (by decide)]
    exact ⟨_, rfl⟩
  · rw [e]
    exact ⟨_, rfl⟩

theorem add_some {x y : Nat} (hx : rg x < INF) (h : isNaN y = false) : ∃ r, floatBits .add .f64 x y = some r := by
  show ∃ r, ((double.read x).sum (double.read y)).map double.write = some r
  rw [read_fin hx]
  rcases read_cases h with ⟨s, m, i, e⟩ | ⟨s, e⟩
  · rw [e]
    exact ⟨_, rfl⟩
  · rw [e]
    exact ⟨_, rfl⟩

theorem fop_of {op : BinOp} {x y r : Nat} (h : floatBits op .f64 x y = some r) : floatBits op .f64 x y = some (fop op x y) := by
  rw [h]; simp [fop, h]

/-- The average, with a compound of L octets. -/
def avgF (a : Nat) (L : Int) : Nat := fop .add a (fop .quo (fop .sub (floatOfInt .f64 (L + 28)) a) F16)

theorem foi_lt {n : Int} (h : n.natAbs ≤ 1000000000) : rg (floatOfInt .f64 n) < INF := by
  have := foi_le h rn_gig
  exact Nat.lt_of_le_of_lt this (by decide)

theorem avg_bits {a : Nat} {L : Int} (ha : rg a < INF) (hL : (L + 28).natAbs ≤ 1000000000) :
    floatBits .sub .f64 (floatOfInt .f64 (L + 28)) a = some (fop .sub (floatOfInt .f64 (L + 28)) a) ∧
    floatBits .quo .f64 (fop .sub (floatOfInt .f64 (L + 28)) a) F16 = some (fop .quo (fop .sub (floatOfInt .f64 (L + 28)) a) F16) ∧
    floatBits .add .f64 a (fop .quo (fop .sub (floatOfInt .f64 (L + 28)) a) F16) = some (avgF a L) ∧ isNaN (avgF a L) = false := by
  have h1 := fop_of (sub_fin (foi_lt hL) ha)
  obtain ⟨r, h2⟩ := quo_some (bits_not h1)
  have h2 := fop_of h2
  obtain ⟨r3, h3⟩ := add_some ha (bits_not h2)
  have h3 := fop_of h3
  exact ⟨h1, h2, h3, bits_not h3⟩

def psi21 (S : StV) (b : Nat) (L : Int) (A : Nat) : Nat → Value → Prop
  | 4 => fun v => v = .pointer (some ⟨b, 0, none⟩)
  | 5 => fun v => v = .pointer (some ⟨b, 0, none⟩)
  | 6 => fun v => v = .pointer (some ⟨b, 2, none⟩)
  | 7 => fun v => v = .float .f64 (S.avg)
  | 8 => fun v => v = .int .i64 L
  | 9 => fun v => v = .int .i64 (L + 28)
  | 10 => fun v => v = .float .f64 (floatOfInt .f64 (L + 28))
  | 11 => fun v => v = .pointer (some ⟨b, 0, none⟩)
  | 12 => fun v => v = .pointer (some ⟨b, 0, none⟩)
  | 13 => fun v => v = .pointer (some ⟨b, 2, none⟩)
  | 14 => fun v => v = .float .f64 (S.avg)
  | 15 => fun v => v = .float .f64 (fop .sub (floatOfInt .f64 (L + 28)) S.avg)
  | 16 => fun v => v = .float .f64 (fop .quo (fop .sub (floatOfInt .f64 (L + 28)) S.avg) 4625196817309499392)
  | 17 => fun v => v = .float .f64 (A)
  | 18 => fun v => v = .pointer (some ⟨b, 0, none⟩)
  | 19 => fun v => v = .pointer (some ⟨b, 2, none⟩)
  | _ => fun _ => True

set_option maxRecDepth 8000 in
set_option maxHeartbeats 1000000 in
attribute [local go_sem] store_float in
theorem average_any (b : Nat) (S : StV) (L : Int) (w : World) (hs : Stt w b S) (ha : rg S.avg < INF) (hL0 : 0 ≤ L) (hL1 : L ≤ 100000000) :
    Calls Ybaz.prog 21 #[.pointer (some ⟨b, 0, none⟩), .int .i64 L] w fun e w' => e = .returned (.tuple #[]) ∧ w' = w.drew.setCell ⟨b, 2, none⟩ (.float .f64 (avgF S.avg L)) := by
  obtain ⟨b1, b2, b3, _⟩ := avg_bits (L := L) ha (by omega)
  have r1 := det b1
  have r2 := det b2
  have r3 := det b3
  unfold F16 at r2
  generalize avgF S.avg L = A at *
  unfold F16 at r3
  clear b1 b2 b3 ha
  have c2 : w.cell? ⟨b, 2, none⟩ = some (.float .f64 S.avg) := cell_of hs
  have f2 : w.frozen? ⟨b, 2, none⟩ = false := frozen_of hs
  have E1 : IntKind.i64.wrap (L + 28) = L + 28 := by simp [IntKind.wrap, IntKind.bits, IntKind.signed]; omega
  clear hs
  go_enter Ybaz.func21, Ybaz.ntmps21
  go_wp2_with fail
  refine wp_region_last (fun w' => w' = w.drew) (fun w' => w' = w.drew.setCell ⟨b, 2, none⟩ (.float .f64 A)) (psi21 S b L A) 16 mixed rfl (by kernel_rfl) (by kernel_rfl) (by kernel_rfl) (by kernel_rfl) (by kernel_rfl) ?each ?last ?fin
  case each =>
    simp only [List.dropLast, List.forall_mem_cons]
    refine ⟨?_, ?_, ?_, ?_, ?_, ?_, ?_, ?_, ?_, ?_, ?_, ?_, ?_, ?_, ?_, ?_, fun _ h => by cases h⟩
    · intro a w1 hC hs hn
      have h1' : a.tmps.getD 0 undef = .pointer (some ⟨b, 0, none⟩) := hs 0 (by kernel_rfl)
      clear hs hn
      unfold Oper.wp
      simp only [execOp, Act.eval, h1']
      exact ⟨_, rfl, fun t ht => by cases ht; rfl, hC⟩
    · intro a w1 hC hs hn
      have h1' : a.tmps.getD 4 undef = .pointer (some ⟨b, 0, none⟩) := hn 4 (by kernel_rfl)
      clear hs hn
      unfold Oper.wp
      simp only [execOp, Act.eval, h1']
      go_simp
      exact ⟨_, rfl, rfl⟩
    · intro a w1 hC hs hn
      have h1' : a.tmps.getD 5 undef = .pointer (some ⟨b, 0, none⟩) := hn 5 (by kernel_rfl)
      clear hs hn
      unfold Oper.wp
      simp only [execOp, Act.eval, h1']
      go_simp
      exact ⟨_, rfl, rfl⟩
    · intro a w1 hC hs hn
      have h1' : a.tmps.getD 6 undef = .pointer (some ⟨b, 2, none⟩) := hn 6 (by kernel_rfl)
      have hc0 : w1.cell? ⟨b, 2, none⟩ = some (.float .f64 S.avg) := by rw [hC]; exact c2
      clear hs hn
      unfold Oper.wp
      simp only [execOp, Act.eval, h1']
      go_simp
      exact ⟨_, rfl, rfl⟩
    · intro a w1 hC hs hn
      have h1' : a.tmps.getD 1 undef = .int .i64 L := hs 1 (by kernel_rfl)
      clear hs hn
      unfold Oper.wp
      simp only [execOp, Act.eval, h1']
      exact ⟨_, rfl, fun t ht => by cases ht; rfl, hC⟩
    · intro a w1 hC hs hn
      have h1' : a.tmps.getD 8 undef = .int .i64 L := hn 8 (by kernel_rfl)
      clear hs hn
      unfold Oper.wp
      simp only [execOp, Act.eval, h1']
      go_simp
      exact ⟨_, rfl, rfl⟩
    · intro a w1 hC hs hn
      have h1' : a.tmps.getD 9 undef = .int .i64 (L + 28) := hn 9 (by kernel_rfl)
      clear hs hn
      unfold Oper.wp
      simp only [execOp, Act.eval, h1']
      go_simp
      exact ⟨_, rfl, rfl⟩
    · intro a w1 hC hs hn
      have h1' : a.tmps.getD 0 undef = .pointer (some ⟨b, 0, none⟩) := hs 0 (by kernel_rfl)
      clear hs hn
      unfold Oper.wp
      simp only [execOp, Act.eval, h1']
      exact ⟨_, rfl, fun t ht => by cases ht; rfl, hC⟩
    · intro a w1 hC hs hn
      have h1' : a.tmps.getD 11 undef = .pointer (some ⟨b, 0, none⟩) := hn 11 (by kernel_rfl)
      clear hs hn
      unfold Oper.wp
      simp only [execOp, Act.eval, h1']
      go_simp
      exact ⟨_, rfl, rfl⟩
    · intro a w1 hC hs hn
      have h1' : a.tmps.getD 12 undef = .pointer (some ⟨b, 0, none⟩) := hn 12 (by kernel_rfl)
      clear hs hn
      unfold Oper.wp
      simp only [execOp, Act.eval, h1']
      go_simp
      exact ⟨_, rfl, rfl⟩
    · intro a w1 hC hs hn
      have h1' : a.tmps.getD 13 undef = .pointer (some ⟨b, 2, none⟩) := hn 13 (by kernel_rfl)
      have hc0 : w1.cell? ⟨b, 2, none⟩ = some (.float .f64 S.avg) := by rw [hC]; exact c2
      clear hs hn
      unfold Oper.wp
      simp only [execOp, Act.eval, h1']
      go_simp
      exact ⟨_, rfl, rfl⟩
    · intro a w1 hC hs hn
      have h1' : a.tmps.getD 10 undef = .float .f64 (floatOfInt .f64 (L + 28)) := hn 10 (by kernel_rfl)
      have h2' : a.tmps.getD 14 undef = .float .f64 (S.avg) := hn 14 (by kernel_rfl)
      clear hs hn
      unfold Oper.wp
      simp only [execOp, Act.eval, h1', h2']
      go_simp
      exact ⟨_, rfl, rfl⟩
    · intro a w1 hC hs hn
      have h1' : a.tmps.getD 15 undef = .float .f64 (fop .sub (floatOfInt .f64 (L + 28)) S.avg) := hn 15 (by kernel_rfl)
      clear hs hn
      unfold Oper.wp
      simp only [execOp, Act.eval, h1']
      go_simp
      exact ⟨_, rfl, rfl⟩
    · intro a w1 hC hs hn
      have h1' : a.tmps.getD 7 undef = .float .f64 (S.avg) := hn 7 (by kernel_rfl)
      have h2' : a.tmps.getD 16 undef = .float .f64 (fop .quo (fop .sub (floatOfInt .f64 (L + 28)) S.avg) 4625196817309499392) := hn 16 (by kernel_rfl)
      clear hs hn
      unfold Oper.wp
      simp only [execOp, Act.eval, h1', h2']
      go_simp
      exact ⟨_, rfl, rfl⟩
    · intro a w1 hC hs hn
      have h1' : a.tmps.getD 4 undef = .pointer (some ⟨b, 0, none⟩) := hn 4 (by kernel_rfl)
      clear hs hn
      unfold Oper.wp
      simp only [execOp, Act.eval, h1']
      go_simp
      exact ⟨_, rfl, rfl⟩
    · intro a w1 hC hs hn
      have h1' : a.tmps.getD 18 undef = .pointer (some ⟨b, 0, none⟩) := hn 18 (by kernel_rfl)
      clear hs hn
      unfold Oper.wp
      simp only [execOp, Act.eval, h1']
      go_simp
      exact ⟨_, rfl, rfl⟩
  case last =>
    simp only [List.getLast?, List.getLast, Option.mem_def, Option.some.injEq]
    rintro o rfl
    intro a w1 hC hs hn
    have h1' : a.tmps.getD 19 undef = .pointer (some ⟨b, 2, none⟩) := hn 19 (by kernel_rfl)
    have h2' : a.tmps.getD 17 undef = .float .f64 A := hn 17 (by kernel_rfl)
    have hc0 : w1.cell? ⟨b, 2, none⟩ = some (.float .f64 S.avg) := by rw [hC]; exact c2
    have hf0 : w1.frozen? ⟨b, 2, none⟩ = false := by rw [hC]; exact f2
    clear hs hn
    unfold Oper.wp
    simp only [execOp, Act.eval, h1', h2']
    go_simp
  case fin =>
    intro f w1 hC hs hp
    subst hC
    go_end0
    exact ⟨rfl, rfl⟩
end Go.Proofs.YbulkdsruGreatDoor
