import Derived.Test.YbulkdswqDoorWalkK
import Derived.Test.YbulkdswqDoorRows
import Derived.Lib.LaidTab
import Derived.LaidMore
import Derived.ProofKit
namespace Go.Proofs.YbulkdswqDoor
open Go.ChangeShapes Go.WideShapes Go.RowKit

theorem trod_float {H : Type} {enc : TypeId × Value → H} {P : Program} {w : World} {base : Nat} {sp : Nat → Bool} {held : Bool} {fuel : Nat} {t : TypeId} {k : FloatKind} {cs : List Value} {x : DataW H × List MemPlace}
    (ht : P.underlying t = some (.float k)) (h : DataW.trod enc P w base sp held fuel t cs = some x) : ∃ b, cs = [.float k b] ∧ x = (.lit (.float k b), []) := by
  cases fuel with
  | zero => simp [DataW.trod] at h
  | succ n =>
    unfold DataW.trod at h
    rw [ht] at h
    split at h <;> simp_all

/-- An array of floats that reads as the table holds the table's words, cell for cell. -/
theorem cells_of_ftab {H : Type} {enc : TypeId × Value → H} {P : Program} {w : World} {base : Nat} {sp : Nat → Bool} {held : Bool} {fuel : Nat} {t e : TypeId} {n : Nat} {k : FloatKind} {cs : List Value} {zs : List Nat} {p : List MemPlace}
    (ht : P.underlying t = some (.array n e)) (he : P.underlying e = some (.float k)) (hce : P.cellsOf e = 1) (hct : P.cellsOf t = n)
    (h : DataW.trod enc P w base sp held fuel t cs = some (.agg (zs.map fun z => .lit (.float k z)), p)) : cs = zs.map fun z => Value.float k z := by
  cases fuel with
  | zero => simp [DataW.trod] at h
  | succ fuel =>
    simp only [DataW.trod, ht, hce, hct, Nat.mul_one] at h
    split at h
    · rename_i hl
      obtain ⟨xs, hm, hx⟩ := Option.map_eq_some_iff.1 h
      have hxs : xs.map (·.1) = zs.map fun z => (DataW.lit (.float k z) : DataW H) := by
        have := congrArg Prod.fst hx
        simpa using this
      have hxl : xs.length = n := by simpa using Lib.mapM_length hm
      have hzl : zs.length = n := by
        have := congrArg List.length hxs
        simp at this
        omega
      apply List.ext_getElem?
      intro i
      by_cases hi : i < n
      · obtain ⟨b, hb, hf⟩ := Lib.mapM_at hm i i (by simp [hi])
        obtain ⟨z, hc, rfl⟩ := trod_float he hf
        have h1 : cs[i]? = some (.float k z) := by
          have := congrArg (·[0]?) hc
          simpa [List.getElem?_take, List.getElem?_drop] using this
        have h2 : (xs.map (·.1))[i]? = some (DataW.lit (.float k z) : DataW H) := by simp [hb]
        rw [hxs] at h2
        simp only [List.getElem?_map, Option.map_eq_some_iff, DataW.lit.injEq, Lit.float.injEq, true_and] at h2
        obtain ⟨z', hz', rfl⟩ := h2
        simp [h1, hz']
      · rw [List.getElem?_eq_none (by omega), List.getElem?_eq_none (by simp; omega)]
    · cases h

theorem g2 : Ybad.prog.globalNamed "math._cos" = some 2 := by kernel_rfl
theorem g3 : Ybad.prog.globalNamed "math._sin" = some 3 := by kernel_rfl
theorem g4 : Ybad.prog.globalNamed "math.mPi4" = some 4 := by kernel_rfl
theorem t2 : (Ybad.prog.globals[2]?).map (·.type) = some 60 := by kernel_rfl
theorem t3 : (Ybad.prog.globals[3]?).map (·.type) = some 60 := by kernel_rfl
theorem t4 : (Ybad.prog.globals[4]?).map (·.type) = some 68 := by kernel_rfl
theorem c22 : Ybad.prog.cellsOf 22 = 1 := by kernel_rfl
theorem c60 : Ybad.prog.cellsOf 60 = 6 := by kernel_rfl
theorem c68 : Ybad.prog.cellsOf 68 = 20 := by kernel_rfl
theorem c46 : Ybad.prog.cellsOf 46 = 1 := by kernel_rfl
theorem ct38 : Ybad.prog.cellTypes Ybad.prog.depth 38 = some (List.replicate 13 22) := by kernel_rfl
theorem c38 : Ybad.prog.cellsOf 38 = 13 := by kernel_rfl
theorem u22 : Ybad.prog.underlying 22 = some (.float .f64) := Ybad.underlying22

def sinT : List Nat := [4460209587652500685, 13716528389658582877, 4523617212962785441, 13774824197404483331, 4575957461383575504, 13818544856648471880]
def cosT : List Nat := [13666448263388469915, 4477121864728985349, 13732177093698800582, 4537941361668146421, 13787419979223748497, 4586165620538955083]

/-- What the row's condition gives the walks. -/
theorem of_laid {W : World} (h : laidMetH Ybad.prog Rows.lawS5983CWholeRow.laid W) : Tabs W ∧ 5 ≤ W.heap.size := by
  rw [MakeChecks.laidMetH_plain _ _ _ (by kernel_rfl)] at h
  obtain ⟨ps, ⟨a0, b0, cs0, f0, p0, q0, hg0, ht0, hv0, hd0, ⟨a1, b1, cs1, f1, p1, q1, hg1, ht1, hv1, hd1, ⟨a2, b2, cs2, f2, p2, q2, hg2, ht2, hv2, hd2, _, _⟩, _⟩, _⟩, _, _⟩ := h
  obtain rfl := Option.some.inj (g3.symm.trans hg0)
  obtain rfl := Option.some.inj (g2.symm.trans hg1)
  obtain rfl := Option.some.inj (g4.symm.trans hg2)
  obtain rfl := Option.some.inj (t3.symm.trans ht0)
  obtain rfl := Option.some.inj (t2.symm.trans ht1)
  obtain rfl := Option.some.inj (t4.symm.trans ht2)
  have e0 := cells_of_ftab (zs := sinT) Ybad.underlying60 u22 c22 c60 hd0
  have e1 := cells_of_ftab (zs := cosT) Ybad.underlying60 u22 c22 c60 hd1
  have e2 := Lib.cells_of_tab (zs := mpT.map fun n : Nat => (n : Int)) Ybad.underlying68 Ybad.underlying46 c46 c68 hd2
  have k0 : ∀ i, W.cell? ⟨3, i, none⟩ = (sinT.map fun z => Value.float .f64 z)[i]? := fun i => by
    rw [World.var?_cell hg0 hv0 i, ← e0]; simp
  have k1 : ∀ i, W.cell? ⟨2, i, none⟩ = (cosT.map fun z => Value.float .f64 z)[i]? := fun i => by
    rw [World.var?_cell hg1 hv1 i, ← e1]; simp
  have k2 : ∀ i, W.cell? ⟨4, i, none⟩ = ((mpT.map fun n : Nat => (n : Int)).map fun z => Value.int .u64 z)[i]? := fun i => by
    rw [World.var?_cell hg2 hv2 i, ← e2]; simp
  refine ⟨⟨k1 0, k1 1, k1 2, k1 3, k1 4, k1 5, k0 0, k0 1, k0 2, k0 3, k0 4, k0 5, fun k hk => ?_⟩, ?_⟩
  · rw [k2 k]
    have hl : mpT.length = 20 := by decide
    simp [List.getElem?_eq_getElem (show k < mpT.length by omega), List.getD]
  · have := World.block_lt_of_cell? _ _ (k2 0)
    exact this

/-- The sky's value, opened. -/
theorem open_sky {W : World} {r : Reach} {b : Nat} {v : Value} (h : Value.okWide Ybad.prog W r b 38 v) :
    ∃ x0 x1 x2 x3 x4 x5 x6 x7 x8 x9 x10 x11 x12, v = .agg #[.float .f64 x0, .float .f64 x1, .float .f64 x2, .float .f64 x3, .float .f64 x4, .float .f64 x5, .float .f64 x6, .float .f64 x7, .float .f64 x8, .float .f64 x9, .float .f64 x10, .float .f64 x11, .float .f64 x12] := by
  unfold Value.okWide at h
  rw [Ybad.underlying38] at h
  obtain ⟨cs, rfl, hs, ts, hts, _, hall⟩ := h
  rw [c38] at hs
  rw [ct38] at hts
  cases hts
  have hf : ∀ (i : Nat) (v : Value), cs[i]? = some v → ∃ x, v = Value.float .f64 x := by
    intro i v hv
    obtain ⟨u, hu, hc⟩ := hall i v hv
    have hu2 : u = 22 := by
      have := List.mem_of_getElem? hu
      simpa using List.eq_of_mem_replicate this
    subst hu2
    exact okWide_float Ybad.underlying22 (by unfold Value.okWide; rw [Ybad.underlying22]; exact hc)
  obtain ⟨l⟩ := cs
  match l, hs with
  | [y0, y1, y2, y3, y4, y5, y6, y7, y8, y9, y10, y11, y12], _ =>
    obtain ⟨x0, rfl⟩ := hf 0 y0 rfl
    obtain ⟨x1, rfl⟩ := hf 1 y1 rfl
    obtain ⟨x2, rfl⟩ := hf 2 y2 rfl
    obtain ⟨x3, rfl⟩ := hf 3 y3 rfl
    obtain ⟨x4, rfl⟩ := hf 4 y4 rfl
    obtain ⟨x5, rfl⟩ := hf 5 y5 rfl
    obtain ⟨x6, rfl⟩ := hf 6 y6 rfl
    obtain ⟨x7, rfl⟩ := hf 7 y7 rfl
    obtain ⟨x8, rfl⟩ := hf 8 y8 rfl
    obtain ⟨x9, rfl⟩ := hf 9 y9 rfl
    obtain ⟨x10, rfl⟩ := hf 10 y10 rfl
    obtain ⟨x11, rfl⟩ := hf 11 y11 rfl
    obtain ⟨x12, rfl⟩ := hf 12 y12 rfl
    exact ⟨x0, x1, x2, x3, x4, x5, x6, x7, x8, x9, x10, x11, x12, rfl⟩
end Go.Proofs.YbulkdswqDoor
