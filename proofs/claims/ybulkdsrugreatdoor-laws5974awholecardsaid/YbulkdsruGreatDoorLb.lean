import Derived.Test.YbulkdsruGreatDoorSame
import Derived.Test.YbulkdsruGreatDoorRecvE
import Derived.Test.YbulkdsruGreatDoorRecv1
import Derived.Test.YbulkdsruGreatDoorParse
import Derived.Test.YbulkdsruGreatDoorApp
import Derived.Deep.DeepCutAuto
import Derived.Deep.CutBlock
import Derived.Deep.LoopGhost
namespace Go.Proofs.YbulkdsruGreatDoor
open Go.RowKit Go.Op
set_option linter.unusedVariables false
set_option linter.unusedSimpArgs false

/-- The block of number n in a code. -/
def blkOf (n : Nat) : Code → Option Code
  | .block i c => if i = n then some (.block i c) else blkOf n c
  | .seq a c => match blkOf n a with
    | some x => some x
    | none => blkOf n c
  | .cond _ a c => match blkOf n a with
    | some x => some x
    | none => blkOf n c
  | .loop c => blkOf n c
  | .scope c => blkOf n c
  | _ => none
noncomputable def lawBlk (n : Nat) : Code := (Ybaz.f3.body.bind (blkOf n)).getD .skip
/-- What follows k statements of a code. -/
def dropS : Nat → Code → Code
  | 0, c => c
  | k + 1, .seq _ c => dropS k c
  | _, c => c
noncomputable def lawTail (k : Nat) : Code := dropS k (Ybaz.f3.body.getD .skip)
def LawQ (w0 : World) : Exit → Act → World → Prop := bodyPost Ybaz.prog Ybaz.f3 fun e w' => e = Ending.returned (.bool true) ∧ Below w0.heap.size w0 w'

/-- A member that the State knows before the call. -/
structure IM where
  s : Int
  h : Int
  t : Int
  b : Bool
/-- A packet after the first. -/
structure IP where
  k : Int
  s : Int
  bp : Option Addr
  bc : Nat
  bl : List Int
def i64ok (d : Int) : Prop := -9223372036854775808 ≤ d ∧ d ≤ 9223372036854775807
def RowM (w : World) (ai : Option Addr) (l : List IM) : Prop := ∀ i x, l[i]? = some x → ∃ g o, ai = some ⟨g, o, none⟩ ∧ g < w.heap.size ∧ u32ok x.s ∧ i64ok x.h ∧ i64ok x.t ∧
  w.cell? ⟨g, o + i * 4, none⟩ = some (.int .u32 x.s) ∧ w.cell? ⟨g, o + i * 4 + 1, none⟩ = some (.int .i64 x.h) ∧ w.cell? ⟨g, o + i * 4 + 2, none⟩ = some (.int .i64 x.t) ∧ w.cell? ⟨g, o + i * 4 + 3, none⟩ = some (.bool x.b)
def RowB (w : World) (bp : Option Addr) (l : List Int) : Prop := ∀ j v, l[j]? = some v → ∃ g o, bp = some ⟨g, o, none⟩ ∧ g < w.heap.size ∧ u32ok v ∧ w.cell? ⟨g, o + j, none⟩ = some (.int .u32 v)
def RowP (w : World) (ap : Option Addr) (l : List IP) : Prop := ∀ i x, l[i]? = some x → ∃ g o, ap = some ⟨g, o, none⟩ ∧ g < w.heap.size ∧ (0 ≤ x.k ∧ x.k ≤ 255) ∧ u32ok x.s ∧ x.bl.length ≤ maxLen ∧
  w.cell? ⟨g, o + i * 3, none⟩ = some (.int .u8 x.k) ∧ w.cell? ⟨g, o + i * 3 + 1, none⟩ = some (.int .u32 x.s) ∧ w.cell? ⟨g, o + i * 3 + 2, none⟩ = some (.slice x.bp x.bl.length x.bc) ∧ RowB w x.bp x.bl
theorem RowB.below {w w' : World} {bp : Option Addr} {l : List Int} (h : RowB w bp l) (hb : Below w.heap.size w w') : RowB w' bp l := by
  intro j v hv
  obtain ⟨g, o, h1, h2, h3, h4⟩ := h j v hv
  exact ⟨g, o, h1, Nat.lt_of_lt_of_le h2 hb.size, h3, (hb.cell (p := ⟨g, o + j, none⟩) h2).trans h4⟩
theorem RowP.below {w w' : World} {ap : Option Addr} {l : List IP} (h : RowP w ap l) (hb : Below w.heap.size w w') : RowP w' ap l := by
  intro i x hx
  obtain ⟨g, o, h1, h2, h3, h4, h5, c0, c1, c2, h6⟩ := h i x hx
  exact ⟨g, o, h1, Nat.lt_of_lt_of_le h2 hb.size, h3, h4, h5, (hb.cell (p := ⟨g, o + i * 3, none⟩) h2).trans c0, (hb.cell (p := ⟨g, o + i * 3 + 1, none⟩) h2).trans c1, (hb.cell (p := ⟨g, o + i * 3 + 2, none⟩) h2).trans c2, h6.below hb⟩
theorem RowM.below {w w' : World} {ap : Option Addr} {l : List IM} (h : RowM w ap l) (hb : Below w.heap.size w w') : RowM w' ap l := by
  intro i x hx
  obtain ⟨g, o, h1, h2, h3, h4, h5, c0, c1, c2, c3⟩ := h i x hx
  exact ⟨g, o, h1, Nat.lt_of_lt_of_le h2 hb.size, h3, h4, h5, (hb.cell (p := ⟨g, o + i * 4, none⟩) h2).trans c0, (hb.cell (p := ⟨g, o + i * 4 + 1, none⟩) h2).trans c1, (hb.cell (p := ⟨g, o + i * 4 + 2, none⟩) h2).trans c2, (hb.cell (p := ⟨g, o + i * 4 + 3, none⟩) h2).trans c3⟩

def IP.n (x : IP) : Nat := min 31 x.bl.length
def tot : List IP → Nat
  | [] => 0
  | x :: l => 1 + x.n + tot l
theorem tot_append : ∀ (a b : List IP), tot (a ++ b) = tot a + tot b
  | [], b => by simp [tot]
  | x :: a, b => by simp [tot, tot_append a b]; omega
theorem tot_succ (l : List IP) (i : Nat) (h : i < l.length) : tot (l.take (i + 1)) = tot (l.take i) + 1 + (l[i]).n := by
  rw [take_succ l i h, tot_append]; simp [tot]; omega
theorem tot_le : ∀ (l : List IP), tot l ≤ 32 * l.length
  | [] => by simp [tot]
  | x :: l => by have := tot_le l; have : x.n ≤ 31 := Nat.min_le_left _ _; simp [tot]; omega
theorem len_le_tot : ∀ (l : List IP), l.length ≤ tot l
  | [] => by simp [tot]
  | x :: l => by have := len_le_tot l; simp [tot]; omega
theorem tot_take (l : List IP) (i : Nat) : tot (l.take i) ≤ tot l := by
  have := tot_append (l.take i) (l.drop i)
  rw [List.take_append_drop] at this; omega
def IP.pk (x : IP) : Pk := if x.k % 4 = 0 then .sr x.s else if x.k % 4 = 1 then .rr x.s else if x.k % 4 = 2 then .bye (x.bl.take 31) else .sdes
def fstP (first fs : Int) : Pk := if first % 2 = 0 then .sr fs else .rr fs
def pks (first fs : Int) (l : List IP) : List Pk := fstP first fs :: l.map IP.pk
theorem pks_succ (first fs : Int) (l : List IP) (i : Nat) (h : i < l.length) : pks first fs (l.take (i + 1)) = pks first fs (l.take i) ++ [(l[i]).pk] := by
  unfold pks; rw [take_succ l i h, List.map_append]; rfl
def evl (ps : List Pk) : List (Int × Int) := ps.flatMap Pk.evs
theorem evl_append (a b : List Pk) : evl (a ++ b) = evl a ++ evl b := by simp [evl]
theorem pk_evs_len (x : IP) : (x.pk.evs).length ≤ 1 + x.n := by
  unfold IP.pk IP.n
  split
  · simp [Pk.evs]
  · split
    · simp [Pk.evs]
    · split
      · simp [Pk.evs, List.length_take]
      · simp [Pk.evs]
theorem evs_len (first fs : Int) : ∀ (l : List IP), (evl (pks first fs l)).length ≤ 1 + tot l
  | [] => by unfold pks fstP evl; split <;> simp [Pk.evs]
  | x :: l => by
    have h1 := evs_len first fs l
    have h2 := pk_evs_len x
    simp only [pks, evl, List.map_cons, List.flatMap_cons, List.length_append, tot] at h1 h2 ⊢
    omega
theorem pk_len (x : IP) : x.pk.bytes.length ≤ 128 := by
  rw [Pk.len]
  unfold IP.pk
  split
  · simp [Pk.k]
  · split
    · simp [Pk.k]
    · split
      · simp [Pk.k]; omega
      · simp [Pk.k]
theorem flat_len (first fs : Int) : ∀ (l : List IP), (flat (pks first fs l)).length ≤ 28 + 128 * l.length
  | [] => by unfold pks fstP; split <;> simp [flat, Pk.len, Pk.k]
  | x :: l => by
    have h1 := flat_len first fs l
    have h2 := pk_len x
    simp only [pks, List.map_cons, flat_cons, List.length_append, List.length_cons] at h1 h2 ⊢
    omega
theorem fstP_ok (first fs : Int) (h : u32ok fs) : (fstP first fs).ok := by unfold fstP; split <;> exact h
end Go.Proofs.YbulkdsruGreatDoor
