import Derived.Test.YbulkdsruGreatDoorLb
import Derived.Deep.Slices
import Derived.ChangeArms
import Derived.OpenShut
namespace Go.Proofs.YbulkdsruGreatDoor
open Go.RowKit Go.Op Go.Deep
set_option linter.unusedVariables false
set_option linter.unusedSimpArgs false

theorem c44 : Ybaz.prog.cellsOf 44 = 4 := by kernel_rfl
theorem c28 : Ybaz.prog.cellsOf 28 = 3 := by kernel_rfl
theorem c24 : Ybaz.prog.cellsOf 24 = 1 := by kernel_rfl
theorem c26 : Ybaz.prog.cellsOf 26 = 1 := by kernel_rfl
theorem c2 : Ybaz.prog.cellsOf 2 = 1 := by kernel_rfl
theorem c4 : Ybaz.prog.cellsOf 4 = 1 := by kernel_rfl
theorem c5 : Ybaz.prog.cellsOf 5 = 1 := by kernel_rfl
theorem u32_wf {v : Int} (h : (Lit.int .u32 v).wf = true) : u32ok v := by have := bounds_u32 h; unfold u32ok; omega
instance : Inhabited IM := ⟨⟨0, 0, 0, false⟩⟩
instance : Inhabited IP := ⟨⟨0, 0, none, 0, []⟩⟩

theorem len3 {α : Type} {l : List α} (h : l.length = 3) : ∃ a b c, l = [a, b, c] := by
  match l, h with
  | [a, b, c], _ => exact ⟨a, b, c, rfl⟩
theorem len4 {α : Type} {l : List α} (h : l.length = 4) : ∃ a b c d, l = [a, b, c, d] := by
  match l, h with
  | [a, b, c, d], _ => exact ⟨a, b, c, d, rfl⟩

section
variable {H : Type} {enc : TypeId × Value → H} {W : World} {held : Bool} {fuel : Nat}
theorem add_add {a : Addr} (hs : a.spot = none) (i j : Nat) : (a.add i).add j = ⟨a.block, a.off + i + j, none⟩ := by
  obtain ⟨b, off, sp⟩ := a
  have hs : sp = none := hs
  subst hs
  unfold Addr.add
  split <;> split <;> simp_all
/-- A place that is read at its own first cell bears no spot. -/
theorem spot_of {a : Addr} {k n : Nat} {cs : List Value} (h : W.cells? 0 (a.add (0 * k)) n = some cs) (hn : 0 < n) : a.spot = none := by
  obtain ⟨_, hl, hc⟩ := World.cells?_some h
  have h1 := hc 0 hn
  rw [List.getElem?_eq_getElem (by omega)] at h1
  have h2 := World.cell?_spot h1
  simpa [Addr.add] using h2
/-- The cells of an element, at a place of their own. -/
theorem at_cells {a : Addr} {i k n : Nat} {cs : List Value} (hs : a.spot = none) (h : W.cells? 0 (a.add (i * k)) n = some cs) (j : Nat) (v : Value) (hv : cs[j]? = some v) : a = ⟨a.block, a.off, none⟩ ∧ a.block < W.heap.size ∧ W.cell? ⟨a.block, a.off + i * k + j, none⟩ = some v := by
  obtain ⟨_, hl, hc⟩ := World.cells?_some h
  have hj : j < n := by have := (List.getElem?_eq_some_iff.1 hv).1; omega
  have h1 := (hc j hj).trans hv
  rw [add_add hs] at h1
  have hb : (⟨a.block, a.off + i * k + j, none⟩ : Addr).block < W.heap.size := World.block_lt_of_cell? _ _ h1
  refine ⟨?_, hb, h1⟩
  obtain ⟨b, off, sp⟩ := a
  have hs : sp = none := hs
  subst hs
  rfl

theorem rowM_of {ai : Option Addr} {n c : Nat} {x : DataW H × List MemPlace} (h : DataW.trod enc Ybaz.prog W 0 (fun _ => true) held fuel 23 [.slice ai n c] = some x) : ∃ l : List IM, n = l.length ∧ RowM W ai l := by
  rcases open_slice Ybaz.underlying23 h with ⟨hcs, _⟩ | ⟨a, len, cap, m, k, D, Pl, hcs, _, hl, _, hm, _, hx⟩
  · simp at hcs
    exact ⟨[], hcs.2.1, fun i x hx => by simp at hx⟩
  simp at hcs
  obtain ⟨rfl, rfl, rfl⟩ := hcs
  simp at hm
  subst hm
  obtain ⟨f, hf⟩ := choose_lt (α := IM) (n := n) (p := fun i x => a = ⟨a.block, a.off, none⟩ ∧ a.block < W.heap.size ∧ u32ok x.s ∧ i64ok x.h ∧ i64ok x.t ∧ W.cell? ⟨a.block, a.off + i * 4, none⟩ = some (.int .u32 x.s) ∧ W.cell? ⟨a.block, a.off + i * 4 + 1, none⟩ = some (.int .i64 x.h) ∧ W.cell? ⟨a.block, a.off + i * 4 + 2, none⟩ = some (.int .i64 x.t) ∧ W.cell? ⟨a.block, a.off + i * 4 + 3, none⟩ = some (.bool x.b)) (fun i hi => by
    have hsp : a.spot = none := by
      obtain ⟨cs, h1, _⟩ := hx 0 (by omega)
      exact spot_of h1 (by first | (rw [c44]; decide) | (rw [c28]; decide) | (rw [c24]; decide))
    obtain ⟨cs, h1, h2⟩ := hx i (by omega)
    rw [c44] at h1
    obtain ⟨xs, q, rfl, hd, hln, hxl, hel⟩ := DataW.trod_struct Ybaz.underlying44 h2
    have e0 := hel 0 _ rfl
    have e1 := hel 1 _ rfl
    have e2 := hel 2 _ rfl
    have e3 := hel 3 _ rfl
    rw [c44] at hln
    obtain ⟨x0, x1, x2, x3, rfl⟩ := len4 (show xs.length = 4 from hxl)
    obtain ⟨y0, y1, y2, y3, rfl⟩ := len4 hln
    simp only [List.getElem?_cons_zero, List.getElem?_cons_succ] at e0 e1 e2 e3
    obtain ⟨s, hs, _, ws⟩ := DataW.trod_int Ybaz.underlying24 e0
    obtain ⟨p, hp, _, wp⟩ := DataW.trod_int Ybaz.underlying2 e1
    obtain ⟨t, ht, _, wt⟩ := DataW.trod_int Ybaz.underlying2 e2
    obtain ⟨b, hb, _⟩ := DataW.trod_bool Ybaz.underlying4 e3
    simp [c24, c2, c4] at hs hp ht hb
    subst hs hp ht hb
    have r0 := at_cells hsp h1 0 _ rfl
    have r1 := at_cells hsp h1 1 _ rfl
    have r2 := at_cells hsp h1 2 _ rfl
    have r3 := at_cells hsp h1 3 _ rfl
    exact ⟨⟨s, p, t, b⟩, r0.1, r0.2.1, u32_wf ws, bounds_i64 wp, bounds_i64 wt, r0.2.2, r1.2.2, r2.2.2, r3.2.2⟩)
  refine ⟨(List.range n).map f, by simp, fun i x hxi => ?_⟩
  have hi : i < n := by have := (List.getElem?_eq_some_iff.1 hxi).1; simpa using this
  have hxx : f i = x := by simpa [List.getElem?_map, hi] using hxi
  subst hxx
  obtain ⟨q1, q2, q3, q4, q5, q6, q7, q8, q9⟩ := hf i hi
  exact ⟨a.block, a.off, congrArg some q1, q2, q3, q4, q5, q6, q7, q8, q9⟩

theorem rowB_of {bp : Option Addr} {n c : Nat} {x : DataW H × List MemPlace} (h : DataW.trod enc Ybaz.prog W 0 (fun _ => true) held fuel 26 [.slice bp n c] = some x) : ∃ l : List Int, n = l.length ∧ n ≤ maxLen ∧ RowB W bp l := by
  rcases open_slice Ybaz.underlying26 h with ⟨hcs, _⟩ | ⟨a, len, cap, m, k, D, Pl, hcs, _, hl, hml, hm, _, hx⟩
  · simp at hcs
    exact ⟨[], hcs.2.1, by rw [hcs.2.1]; exact Nat.zero_le _, fun i x hx => by simp at hx⟩
  simp at hcs
  obtain ⟨rfl, rfl, rfl⟩ := hcs
  simp at hm
  subst hm
  obtain ⟨f, hf⟩ := choose_lt (α := Int) (n := n) (p := fun i v => a = ⟨a.block, a.off, none⟩ ∧ a.block < W.heap.size ∧ u32ok v ∧ W.cell? ⟨a.block, a.off + i, none⟩ = some (.int .u32 v)) (fun i hi => by
    have hsp : a.spot = none := by
      obtain ⟨cs, h1, _⟩ := hx 0 (by omega)
      exact spot_of h1 (by first | (rw [c44]; decide) | (rw [c28]; decide) | (rw [c24]; decide))
    obtain ⟨cs, h1, h2⟩ := hx i (by omega)
    rw [c24] at h1
    obtain ⟨s, rfl, _, ws⟩ := DataW.trod_int Ybaz.underlying24 h2
    have r0 := at_cells hsp h1 0 _ rfl
    exact ⟨s, r0.1, r0.2.1, u32_wf ws, by simpa using r0.2.2⟩)
  refine ⟨(List.range n).map f, by simp, Nat.le_trans hl hml, fun i x hxi => ?_⟩
  have hi : i < n := by have := (List.getElem?_eq_some_iff.1 hxi).1; simpa using this
  have hxx : f i = x := by simpa [List.getElem?_map, hi] using hxi
  subst hxx
  obtain ⟨q1, q2, q3, q4⟩ := hf i hi
  exact ⟨a.block, a.off, congrArg some q1, q2, q3, q4⟩

theorem trod_slice_form {cs : List Value} {x : DataW H × List MemPlace} (h : DataW.trod enc Ybaz.prog W 0 (fun _ => true) held fuel 26 cs = some x) : ∃ bp n c, cs = [.slice bp n c] := by
  rcases open_slice Ybaz.underlying26 h with ⟨hcs, _⟩ | ⟨a, len, cap, m, k, D, Pl, hcs, _⟩
  · exact ⟨_, _, _, hcs⟩
  · exact ⟨_, _, _, hcs⟩

theorem rowP_of {ap : Option Addr} {n c : Nat} {x : DataW H × List MemPlace} (h : DataW.trod enc Ybaz.prog W 0 (fun _ => true) held fuel 25 [.slice ap n c] = some x) : ∃ l : List IP, n = l.length ∧ RowP W ap l := by
  rcases open_slice Ybaz.underlying25 h with ⟨hcs, _⟩ | ⟨a, len, cap, m, k, D, Pl, hcs, _, hl, _, hm, _, hx⟩
  · simp at hcs
    exact ⟨[], hcs.2.1, fun i x hx => by simp at hx⟩
  simp at hcs
  obtain ⟨rfl, rfl, rfl⟩ := hcs
  simp at hm
  subst hm
  obtain ⟨f, hf⟩ := choose_lt (α := IP) (n := n) (p := fun i x => a = ⟨a.block, a.off, none⟩ ∧ a.block < W.heap.size ∧ (0 ≤ x.k ∧ x.k ≤ 255) ∧ u32ok x.s ∧ x.bl.length ≤ maxLen ∧ W.cell? ⟨a.block, a.off + i * 3, none⟩ = some (.int .u8 x.k) ∧ W.cell? ⟨a.block, a.off + i * 3 + 1, none⟩ = some (.int .u32 x.s) ∧ W.cell? ⟨a.block, a.off + i * 3 + 2, none⟩ = some (.slice x.bp x.bl.length x.bc) ∧ RowB W x.bp x.bl) (fun i hi => by
    have hsp : a.spot = none := by
      obtain ⟨cs, h1, _⟩ := hx 0 (by omega)
      exact spot_of h1 (by first | (rw [c44]; decide) | (rw [c28]; decide) | (rw [c24]; decide))
    obtain ⟨cs, h1, h2⟩ := hx i (by omega)
    rw [c28] at h1
    obtain ⟨xs, q, rfl, hd, hln, hxl, hel⟩ := DataW.trod_struct Ybaz.underlying28 h2
    have e0 := hel 0 _ rfl
    have e1 := hel 1 _ rfl
    have e2 := hel 2 _ rfl
    rw [c28] at hln
    obtain ⟨x0, x1, x2, rfl⟩ := len3 (show xs.length = 3 from hxl)
    obtain ⟨y0, y1, y2, rfl⟩ := len3 hln
    simp only [List.getElem?_cons_zero, List.getElem?_cons_succ] at e0 e1 e2
    obtain ⟨kk, hk, _, wk⟩ := DataW.trod_int Ybaz.underlying5 e0
    obtain ⟨s, hs, _, ws⟩ := DataW.trod_int Ybaz.underlying24 e1
    obtain ⟨bp, bn, bc, hb⟩ := trod_slice_form e2
    rw [hb] at e2
    obtain ⟨bl, hbl, hbm, hB⟩ := rowB_of e2
    simp [c24, c5, c26] at hk hs hb
    subst hk hs hb
    subst hbl
    have r0 := at_cells hsp h1 0 _ rfl
    have r1 := at_cells hsp h1 1 _ rfl
    have r2 := at_cells hsp h1 2 _ rfl
    exact ⟨⟨kk, s, bp, bc, bl⟩, r0.1, r0.2.1, bounds_u8 wk, u32_wf ws, hbm, r0.2.2, r1.2.2, r2.2.2, hB⟩)
  refine ⟨(List.range n).map f, by simp, fun i x hxi => ?_⟩
  have hi : i < n := by have := (List.getElem?_eq_some_iff.1 hxi).1; simpa using this
  have hxx : f i = x := by simpa [List.getElem?_map, hi] using hxi
  subst hxx
  obtain ⟨q1, q2, q3, q4, q5, q6, q7, q8, q9⟩ := hf i hi
  exact ⟨a.block, a.off, congrArg some q1, q2, q3, q4, q5, q6, q7, q8, q9⟩
end
end Go.Proofs.YbulkdsruGreatDoor
