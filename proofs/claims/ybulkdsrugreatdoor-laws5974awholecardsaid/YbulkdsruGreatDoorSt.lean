import Derived.Test.YbulkdsruGreatDoorMp
namespace Go.Proofs.YbulkdsruGreatDoor
open Go.RowKit Go.Op
set_option linter.unusedVariables false
set_option linter.unusedSimpArgs false

def memV (m : Mem) : Value := .agg #[.int .u64 m.heard.n, .int .i64 m.heard.s, .pointer none, .int .u64 m.sent.n, .int .i64 m.sent.s, .pointer none, .bool m.sender]
def Tm.v (t : Tm) : Value := tv t.n t.s

/-- The members, as the map's own values. -/
def vals (f : Ms) : Int → Option Value := fun k => (f k).map memV

theorem vals_getD (f : Ms) (k : Int) : (vals f k).getD (memV Mem.zero) = memV ((f k).getD Mem.zero) := by
  unfold vals; cases f k <;> rfl
theorem vals_some (f : Ms) (k : Int) : (vals f k).isSome = (f k).isSome := by unfold vals; cases f k <;> rfl
theorem vals_upd (f : Ms) (k : Int) (x : Option Mem) : updV (vals f) k (x.map memV) = vals (upd f k x) := by
  funext j; unfold updV vals upd; split <;> simp_all

/-- What a State holds: the fields that turn. -/
structure StV where
  avg : Nat
  mb : Nat
  snd : Int
  pm : Int
  tp : Tm
  tn : Tm
  lv : Bool
  byes : Int

/-- 1000. -/
def BW : Nat := 4652007308841189376

def StV.cells (S : StV) : Array Value :=
  #[.float .f64 BW, .nilFunc, .float .f64 S.avg, .bool true, .bool false, .map (some S.mb), .int .i64 S.snd, .int .i64 S.pm, .int .u64 S.tp.n, .int .i64 S.tp.s, .pointer none, .int .u64 S.tn.n, .int .i64 S.tn.s, .pointer none, .bool S.lv, .int .i64 S.byes]

def Stt (w : World) (b : Nat) (S : StV) : Prop := w.heap[b]? = some (.cells S.cells 58)

theorem cell_of {w : World} {b i : Nat} {cs : Array Value} {t : TypeId} {z : Nat × Nat} (h : w.heap[b]? = some (.cells cs t z)) : w.cell? ⟨b, i, none⟩ = cs[i]? := by
  simp [World.cell?, h]
theorem frozen_of {w : World} {b i : Nat} {cs : Array Value} {t : TypeId} (h : w.heap[b]? = some (.cells cs t)) : w.frozen? ⟨b, i, none⟩ = false := by
  simp [World.frozen?, h]
theorem heap_set {w : World} {b i : Nat} {cs : Array Value} {t : TypeId} {z : Nat × Nat} (h : w.heap[b]? = some (.cells cs t z)) (v : Value) : (w.setCell ⟨b, i, none⟩ v).heap[b]? = some (.cells (cs.setIfInBounds i v) t z) := by
  simp [World.setCell, Array.getElem?_modify, h]

theorem Stt.lt {w : World} {b : Nat} {S : StV} (h : Stt w b S) : b < w.heap.size := (Array.getElem?_eq_some_iff.1 h).1

/-- w' is w but for the blocks b and m, and new ones. -/
structure Two (b m : Nat) (w w' : World) : Prop where
  os : w'.os = w.os
  tape : w'.tape = w.tape
  output : w'.output = w.output
  size : w.heap.size ≤ w'.heap.size
  block : ∀ k, k < w.heap.size → k ≠ b → k ≠ m → w'.heap[k]? = w.heap[k]?

section
variable {b m : Nat} {w w' w'' : World}
theorem Two.refl (b m : Nat) (w : World) : Two b m w w := ⟨rfl, rfl, rfl, Nat.le_refl _, fun _ _ _ _ => rfl⟩
theorem Two.trans (h : Two b m w w') (h' : Two b m w' w'') : Two b m w w'' :=
  ⟨h'.os.trans h.os, h'.tape.trans h.tape, h'.output.trans h.output, Nat.le_trans h.size h'.size, fun k hk h1 h2 => (h'.block k (Nat.lt_of_lt_of_le hk h.size) h1 h2).trans (h.block k hk h1 h2)⟩
theorem Two.below (h : Below w.heap.size w w') : Two b m w w' := ⟨h.os, h.tape, h.output, h.size, fun k hk _ _ => h.block k hk⟩
theorem Two.setCell (h : Two b m w w') (i : Nat) (v : Value) : Two b m w (w'.setCell ⟨b, i, none⟩ v) :=
  h.trans ⟨rfl, rfl, rfl, by simp [World.setCell], fun k hk h1 h2 => Below.heap_setCell _ _ _ _ h1⟩
/-- A store into a block of one's own. -/
theorem Two.own (h : Two b m w w') {p : Nat} (hp : w.heap.size ≤ p) (i : Nat) (v : Value) : Two b m w (w'.setCell ⟨p, i, none⟩ v) :=
  ⟨h.os, h.tape, h.output, Nat.le_trans h.size (by simp [World.setCell]), fun k hk h1 h2 => (Below.heap_setCell _ _ _ _ (by simp; omega)).trans (h.block k hk h1 h2)⟩
theorem Two.alloc (h : Two b m w w') (o : Obj) : Two b m w (w'.alloc o) := h.trans (Two.below ((Below.refl _ _).alloc (Nat.le_refl _) _))
theorem Two.drew (h : Two b m w w') : Two b m w w'.drew := ⟨h.os, h.tape, h.output, h.size, h.block⟩
theorem Two.turned (h : Two b m w w') (ht : w'.mapTurned w'' m) : Two b m w w'' := by
  have g := ht.grown
  exact h.trans ⟨g.os, g.tape, g.output, g.size, fun k hk h1 h2 => g.block k hk (fun e => h2 (by injection e))⟩
/-- Both blocks are one's own: what lay below them lies. -/
theorem Two.to_below (h : Two b m w w') {B : Nat} (hB : B ≤ w.heap.size) (hb : B ≤ b) (hm : B ≤ m) : Below B w w' :=
  ⟨h.os, h.tape, h.output, h.size, fun k hk => h.block k (by omega) (by omega) (by omega)⟩
end

theorem turned_other {w w' : World} {b m : Nat} (h : w.mapTurned w' m) (hne : b ≠ m) : w'.heap[b]? = w.heap[b]? := by
  obtain ⟨es, clock, es', clock', hb, rfl⟩ := h
  exact Go.ChangeMaps.heap_setBlock_other hb _ hne

end Go.Proofs.YbulkdsruGreatDoor
