import Derived.Test.YbulkdsruGreatDoorCut
import Derived.Test.YbulkdsruGreatDoorEach
import Derived.Test.YbulkdsruGreatDoorClock2
namespace Go.Proofs.YbulkdsruGreatDoor
open Go.RowKit Go.Op
set_option linter.unusedVariables false
set_option linter.unusedSimpArgs false

theorem slice30 (W : World) (b o len cap l h : Nat) (hlh : l < h) (hh : h ≤ cap) :
    (Instr.sliceAt 30 (.slice (some ⟨b, o, none⟩) len cap) (some (.int .i64 l)) (some (.int .i64 h)) none).run Ybaz.prog W = .ok (.slice (some ⟨b, o + l, none⟩) (h - l) (cap - l)) W := by
  have h1 : ¬ cap = l := by omega
  have h2 : (l : Int) ≤ h := by omega
  have h3 : (h : Int) ≤ cap := by omega
  go_simp

def psi30 (sl sl2 : Value) (i R : Int) : Nat → Value → Prop
  | 14 => fun v => v = .agg #[]
  | 15 => fun v => v = sl
  | 16 => fun v => v = .int .i64 i
  | 17 => fun v => v = .int .i64 (4 * i)
  | 18 => fun v => v = .int .i64 i
  | 19 => fun v => v = .int .i64 (i + 1)
  | 20 => fun v => v = .int .i64 (4 * (i + 1))
  | 21 => fun v => v = sl2
  | 22 => fun v => v = .int .u32 R
  | 4 => fun v => v = .int .u32 R
  | _ => fun _ => True

set_option maxRecDepth 8000 in
set_option maxHeartbeats 800000 in
theorem byessrc_any (g o m cap i : Nat) (v0 v1 v2 v3 : Int) (w : World) (hm : m ≤ 31) (hi : i < m) (hlc : 4 + 4 * m ≤ cap) (hg : g < w.heap.size)
    (cc : w.cell? ⟨g, o, none⟩ = some (.int .u8 (128 + m)))
    (c0 : w.cell? ⟨g, o + 4 + 4 * i, none⟩ = some (.int .u8 v0)) (c1 : w.cell? ⟨g, o + 4 + 4 * i + 1, none⟩ = some (.int .u8 v1)) (c2 : w.cell? ⟨g, o + 4 + 4 * i + 2, none⟩ = some (.int .u8 v2)) (c3 : w.cell? ⟨g, o + 4 + 4 * i + 3, none⟩ = some (.int .u8 v3))
    (h0 : 0 ≤ v0 ∧ v0 < 256) (h1 : 0 ≤ v1 ∧ v1 < 256) (h2 : 0 ≤ v2 ∧ v2 < 256) (h3 : 0 ≤ v3 ∧ v3 < 256) :
    Calls Ybaz.prog 30 #[.agg #[.slice (some ⟨g, o, none⟩) (4 + 4 * m) cap], .int .i64 i] w fun e w' => e = .returned (.int .u32 (v3 + v2 * 256 + v1 * 65536 + v0 * 16777216)) ∧ Below w.heap.size w w' := by
  have HB : Hid (Below w.heap.size w (w.alloc (.cells #[.slice (some ⟨g, o, none⟩) (4 + 4 * m) cap] 82)).drew) := ((Below.refl _ w).alloc (Nat.le_refl _) _).drew
  have CC : Hid ((w.alloc (.cells #[.slice (some ⟨g, o, none⟩) (4 + 4 * m) cap] 82)).cell? ⟨g, o, none⟩ = some (.int .u8 (128 + m))) := (HB.out.cell (p := ⟨g, o, none⟩) hg).trans cc
  have hU : ∀ w1, Below w.heap.size w w1 → Calls Ybaz.prog 47 #[.agg #[], .slice (some ⟨g, o + 4 + 4 * i, none⟩) 4 (cap - 4 - 4 * i)] w1 fun e w' => e = .returned (.int .u32 (v3 + v2 * 256 + v1 * 65536 + v0 * 16777216)) ∧ Below w1.heap.size w1 w' := fun w1 hb => uint32_any g (o + 4 + 4 * i) 4 (cap - 4 - 4 * i) v0 v1 v2 v3 w1 (by omega) (by have := hb.size; omega)
    ((hb.cell (p := ⟨g, _, none⟩) hg).trans c0) ((hb.cell (p := ⟨g, _, none⟩) hg).trans c1) ((hb.cell (p := ⟨g, _, none⟩) hg).trans c2) ((hb.cell (p := ⟨g, _, none⟩) hg).trans c3) h0 h1 h2 h3
  have hC := count_any g o (4 + 4 * m) cap (128 + m) (w.alloc (.cells #[.slice (some ⟨g, o, none⟩) (4 + 4 * m) cap] 82)).drew (by omega) CC.out
  rw [and31 m hm] at hC
  clear cc c0 c1 c2 c3 h0 h1 h2 h3
  have E1 : IntKind.i64.wrap (4 * (m : Int)) = 4 * m := by simp [IntKind.wrap, IntKind.bits, IntKind.signed]; omega
  have E2 : IntKind.i64.wrap (4 + 4 * (m : Int)) = 4 + 4 * m := by simp [IntKind.wrap, IntKind.bits, IntKind.signed]; omega
  have E3 : IntKind.i64.wrap (4 * (i : Int)) = 4 * i := by simp [IntKind.wrap, IntKind.bits, IntKind.signed]; omega
  have E4 : IntKind.i64.wrap ((i : Int) + 1) = i + 1 := by simp [IntKind.wrap, IntKind.bits, IntKind.signed]; omega
  have E5 : IntKind.i64.wrap (4 * ((i : Int) + 1)) = 4 * (i + 1) := by simp [IntKind.wrap, IntKind.bits, IntKind.signed]; omega
  have c4 : ¬ cap = 4 := by omega
  have c5 : ¬ cap - 4 = 0 := by omega
  have d1 : (0 : Int) ≤ 4 + 4 * (m : Int) := by omega
  have d2 : 4 + 4 * (m : Int) ≤ cap := by omega
  have d3 : (4 : Int) ≤ 4 + 4 * (m : Int) := by omega
  have d4 : (4 : Int) ≤ max (4 + 4 * (m : Int)) 0 := by omega
  go_enter Ybaz.func30, Ybaz.ntmps30
  go_wp2_with fail
  have s0 : (w.alloc (.cells #[.slice (some ⟨g, o, none⟩) (4 + 4 * m) cap] 82)).cell? ⟨w.heap.size, 0, none⟩ = some (.slice (some ⟨g, o, none⟩) (4 + 4 * m) cap) := by simp [go_sem]
  go_region_held3 (fun w' => w'.cell? ⟨w.heap.size, 0, none⟩ = some (.slice (some ⟨g, o, none⟩) (4 + 4 * m) cap)) (go_keep)
    (first | (go_at_call 48; refine hC.mono ?_; rintro e w1 ⟨rfl, rfl⟩))
  go_wp2_with fail
  have q0 : (4 + 4 * (m : Int)).toNat - 4 = 4 * m := by omega
  rw [q0]
  refine wp_region_each (fun w' => Below w.heap.size w w') (psi30 (.slice (some ⟨g, o + 4, none⟩) (4 * m) (cap - 4)) (.slice (some ⟨g, o + 4 + 4 * i, none⟩) 4 (cap - 4 - 4 * i)) i (v3 + v2 * 256 + v1 * 65536 + v0 * 16777216)) mixed HB.out.drew (by kernel_rfl) (by kernel_rfl) (by kernel_rfl) ?each ?fin
  case each =>
    simp only [List.forall_mem_cons]
    refine ⟨?_, ?_, ?_, ?_, ?_, ?_, ?_, ?_, ?_, ?_, fun _ h => by cases h⟩
    · intro a w1 hC hs hn
      clear hs hn
      unfold Oper.wp
      simp only [execOp, Act.eval]
      go_simp
      exact ⟨_, rfl, rfl⟩
    · intro a w1 hC hs hn
      have h1' : a.tmps.getD 5 undef = .slice (some ⟨g, o + 4, none⟩) (4 * m) (cap - 4) := hs 5 (by kernel_rfl)
      clear hs hn
      unfold Oper.wp
      simp only [execOp, Act.eval, h1']
      exact ⟨_, rfl, fun t ht => by cases ht; rfl, hC⟩
    · intro a w1 hC hs hn
      have h1' : a.tmps.getD 1 undef = .int .i64 i := hs 1 (by kernel_rfl)
      clear hs hn
      unfold Oper.wp
      simp only [execOp, Act.eval, h1']
      exact ⟨_, rfl, fun t ht => by cases ht; rfl, hC⟩
    · intro a w1 hC hs hn
      have h1' : a.tmps.getD 16 undef = .int .i64 i := hn 16 (by kernel_rfl)
      clear hs hn
      unfold Oper.wp
      simp only [execOp, Act.eval, h1']
      go_simp
      exact ⟨_, rfl, rfl⟩
    · intro a w1 hC hs hn
      have h1' : a.tmps.getD 1 undef = .int .i64 i := hs 1 (by kernel_rfl)
      clear hs hn
      unfold Oper.wp
      simp only [execOp, Act.eval, h1']
      exact ⟨_, rfl, fun t ht => by cases ht; rfl, hC⟩
    · intro a w1 hC hs hn
      have h1' : a.tmps.getD 18 undef = .int .i64 i := hn 18 (by kernel_rfl)
      clear hs hn
      unfold Oper.wp
      simp only [execOp, Act.eval, h1']
      go_simp
      exact ⟨_, rfl, rfl⟩
    · intro a w1 hC hs hn
      have h1' : a.tmps.getD 19 undef = .int .i64 (i + 1) := hn 19 (by kernel_rfl)
      clear hs hn
      unfold Oper.wp
      simp only [execOp, Act.eval, h1']
      go_simp
      exact ⟨_, rfl, rfl⟩
    · intro a w1 hC hs hn
      have h1' : a.tmps.getD 15 undef = .slice (some ⟨g, o + 4, none⟩) (4 * m) (cap - 4) := hn 15 (by kernel_rfl)
      have h2' : a.tmps.getD 17 undef = .int .i64 (4 * i) := hn 17 (by kernel_rfl)
      have h3' : a.tmps.getD 20 undef = .int .i64 (4 * (i + 1)) := hn 20 (by kernel_rfl)
      clear hs hn
      unfold Oper.wp
      simp only [execOp, Act.eval, h1', h2', h3']
      have hr := slice30 w1 g (o + 4) (4 * m) (cap - 4) (4 * i) (4 * i + 4) (by omega) (by omega)
      have q1 : ((4 * i : Nat) : Int) = 4 * (i : Int) := by omega
      have q2 : ((4 * i + 4 : Nat) : Int) = 4 * ((i : Int) + 1) := by omega
      have q3 : 4 * i + 4 - 4 * i = 4 := by omega
      rw [q1, q2, q3] at hr
      simp only [Option.map_some, Option.map_none, Act.eval, h2', h3']
      have hC2 : Hid _ := hC
      clear hC
      simp [hr, go_sem, Result.andThen, Oper.upon_value]
      exact ⟨_, rfl, rfl, hC2.out⟩
    · intro a w1 hC hs hn
      have h1' : a.tmps.getD 14 undef = .agg #[] := hn 14 (by kernel_rfl)
      have h2' : a.tmps.getD 21 undef = .slice (some ⟨g, o + 4 + 4 * i, none⟩) 4 (cap - 4 - 4 * i) := hn 21 (by kernel_rfl)
      clear hs hn
      unfold Oper.wp
      simp only [execOp, Act.eval, h1', h2']
      go_simp
      refine (hU w1 hC).mono ?_
      rintro e w2 ⟨rfl, hb⟩
      exact ⟨_, rfl, rfl, hC.trans (hb.mono hC.size)⟩
    · intro a w1 hC hs hn
      have h1' : a.tmps.getD 22 undef = .int .u32 (v3 + v2 * 256 + v1 * 65536 + v0 * 16777216) := hn 22 (by kernel_rfl)
      clear hs hn
      unfold Oper.wp
      simp only [execOp, Act.eval, h1']
      exact ⟨_, rfl, fun t ht => by cases ht; rfl, hC⟩
  case fin =>
    intro f w1 hC hs hp
    have e4 : f 4 = .int .u32 (v3 + v2 * 256 + v1 * 65536 + v0 * 16777216) := hp 4 (by kernel_rfl)
    have HB1 : Hid _ := hC
    clear hs hp hC
    simp only [List.size_toArray, List.length_cons, List.length_nil, List.range, List.range.loop, List.map_cons, List.map_nil, e4]
    go_wp2_with fail
    go_ret
    exact ⟨rfl, HB1.out⟩
end Go.Proofs.YbulkdsruGreatDoor
