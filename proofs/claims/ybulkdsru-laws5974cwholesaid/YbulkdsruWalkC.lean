import Derived.Test.YbulkdsruRows
import Derived.WalkKit
import Derived.WalkLawsBesides
import Derived.WalkSpells
import Derived.Laws.CopyOwn
import Derived.Deep.WholeRow
import Derived.Deep.QuietTactic
import Derived.BigQuiet
namespace Go.Proofs.Ybulkdsru
open Go.RowKit
set_option linter.unusedVariables false

/-- What the walk is told of a slice of integers that came in: it is nil; or it leads to a row of 'cap' cells, the numbers 'zs'. -/
def IsRow (k : IntKind) (w : World) (a : Option Addr) (len cap : Nat) (zs : List Int) : Prop :=
  (a = none ∧ len = 0 ∧ cap = 0 ∧ zs = []) ∨
  ∃ x, a = some x ∧ len ≤ cap ∧ cap ≤ maxLen ∧ zs.length = cap ∧ (∀ i, i < zs.length → w.cell? (x.add i) = some (.int k (zs.getD i 0))) ∧ ∀ n ∈ zs, (Lit.int k n).wf = true

theorem Yba.info3 : (Yba.prog.info? 3).map (fun i => (i.zero, i.size, i.bytes)) = some (some (.int .i64 0), 1, 8) := by kernel_rfl
theorem Yba.size3 : (Yba.prog.info? 3).map (·.size) = some 1 := by kernel_rfl

/-- Number i of a fault: the i-th of the numbers handed over, or 0. -/
def nth (zs : List Int) (len i : Nat) : Int := if i < len then zs.getD i 0 else 0

theorem block_lt {w : World} {x : Addr} {v : Value} (h : w.cell? x = some v) : x.block < w.heap.size := by
  refine Decidable.byContradiction fun hn => ?_
  have hnone : w.heap[x.block]? = none := by simp; omega
  cases x with
  | mk b o s => cases s <;> simp [World.cell?, hnone] at h

theorem three (zs : List Int) (len : Nat) (h : len ≤ zs.length) (c0 c1 c2 c3 c4 c8 : Value) :
    ((#[c0, c1, c2, c3, c4, .int .i64 0, .int .i64 0, .int .i64 0, c8] : Array Value).toList.take 5 ++ ((zs.take (Nat.min len 3)).map (Value.int .i64)) ++ (#[c0, c1, c2, c3, c4, .int .i64 0, .int .i64 0, .int .i64 0, c8] : Array Value).toList.drop (5 + ((zs.take (Nat.min len 3)).map (Value.int .i64)).length)).toArray
      = #[c0, c1, c2, c3, c4, .int .i64 (nth zs len 0), .int .i64 (nth zs len 1), .int .i64 (nth zs len 2), c8] := by
  match zs, len, h with
  | zs, 0, _ => simp [nth]
  | a :: zs, 1, _ => simp [nth]
  | a :: b :: zs, 2, _ => simp [nth]
  | a :: b :: c :: zs, n + 3, _ =>
    have : Nat.min (n + 3) 3 = 3 := Nat.min_eq_right (by omega)
    simp [nth, this]

theorem copy3 (w : World) (o1 : Obj) (a : Option Addr) (len cap : Nat) (zs : List Int) (hr : IsRow .i64 w a len cap zs) (c0 c1 c2 c3 c4 c8 : Value) :
    ∃ m : Int, (Builtin.copy_ #[22, 22] 3 #[Value.slice (some { block := w.heap.size + 1, off := 5 }) 3 3, Value.slice a len cap]).run Yba.prog ((w.alloc o1).alloc (.cells #[c0, c1, c2, c3, c4, .int .i64 0, .int .i64 0, .int .i64 0, c8] 25))
      = .ok (.int .i64 m) ((w.alloc o1).alloc (.cells #[c0, c1, c2, c3, c4, .int .i64 (nth zs len 0), .int .i64 (nth zs len 1), .int .i64 (nth zs len 2), c8] 25)) := by
  rcases hr with ⟨rfl, rfl, rfl, rfl⟩ | ⟨x, rfl, hl, hm, hz, hc, hw⟩
  · refine ⟨0, ?_⟩
    rw [run_copy_nil Yba.prog _ 22 22 3 3 _ 3 3 Yba.underlying22 (by rw [Yba.size3]; rfl)]
    simp [nth, goInt]
  · have hnew : ((w.alloc o1).alloc (.cells #[c0, c1, c2, c3, c4, .int .i64 0, .int .i64 0, .int .i64 0, c8] 25)).heap[w.heap.size + 1]? = some (.cells #[c0, c1, c2, c3, c4, .int .i64 0, .int .i64 0, .int .i64 0, c8] 25 (0, 0)) := by
      simpa using Go.heap_alloc_new (w.alloc o1) (.cells #[c0, c1, c2, c3, c4, .int .i64 0, .int .i64 0, .int .i64 0, c8] 25)
    have hlen : ((zs.take (Nat.min len 3)).map (Value.int .i64)).length = Nat.min len 3 := by
      have : Nat.min len 3 ≤ zs.length := Nat.le_trans (Nat.min_le_left _ _) (by omega)
      rw [List.length_map, List.length_take]
      exact Nat.min_eq_left this
    refine ⟨(((zs.take (Nat.min len 3)).map (Value.int .i64)).length : Nat), (run_copy_row Yba.prog _ 22 22 3 3 (w.heap.size + 1) 5 3 3 x len cap _ 25 ((zs.take (Nat.min len 3)).map (Value.int .i64)) Yba.underlying22 Yba.size3 hnew hlen ?_ ?_ ?_).trans ?_⟩
    · intro j v hj
      have hjl : j < Nat.min len 3 := by
        have := (List.getElem?_eq_some_iff.1 hj).1
        omega
      have hjz : j < zs.length := by have : Nat.min len 3 ≤ len := Nat.min_le_left _ _; omega
      have h1 := hc j hjz
      have hb : (x.add j).block < w.heap.size := block_lt h1
      have hB : Below w.heap.size w ((w.alloc o1).alloc (.cells #[c0, c1, c2, c3, c4, .int .i64 0, .int .i64 0, .int .i64 0, c8] 25)) := ((Below.refl _ _).alloc (Nat.le_refl _) _).alloc (by simp) _
      rw [hB.cell hb, h1]
      rw [← hj]
      simp [hjl, hjz]
    · rw [hlen]; have : Nat.min len 3 ≤ 3 := Nat.min_le_right _ _; simp; omega
    · exact ints_oneCell _ _
    · rw [three zs len (by omega)]
      have e := World.setRow_alloc_new (w.alloc o1) #[c0, c1, c2, c3, c4, .int .i64 0, .int .i64 0, .int .i64 0, c8] #[c0, c1, c2, c3, c4, .int .i64 (nth zs len 0), .int .i64 (nth zs len 1), .int .i64 (nth zs len 2), c8] 25
      simp at e
      rw [e]
      rfl

set_option maxHeartbeats 400000 in
theorem faultf_any (fm : ByteArray) (a : Option Addr) (len cap : Nat) (zs : List Int) (w : World) (hr : IsRow .i64 w a len cap zs) :
    Calls Yba.prog 5 #[.string fm, .slice a len cap] w fun e w' => e = .returned (.agg #[.string ⟨#[]⟩, .int .i64 0, .int .i64 0, .string fm, .string ⟨#[]⟩, .int .i64 (nth zs len 0), .int .i64 (nth zs len 1), .int .i64 (nth zs len 2), .int .i64 len]) ∧ Below w.heap.size w w' := by
  obtain ⟨m, hcp⟩ := copy3 w (.cells #[.string ⟨#[]⟩, .int .i64 0, .int .i64 0, .string ⟨#[]⟩, .string ⟨#[]⟩, .int .i64 0, .int .i64 0, .int .i64 0, .int .i64 0] 25) a len cap zs hr (.string ⟨#[]⟩) (.int .i64 0) (.int .i64 0) (.string fm) (.string ⟨#[]⟩) (.int .i64 len)
  clear hr
  go_enter Yba.func5, Yba.ntmps5
  go_wp2
  exact bodyPost_ret (v := .agg #[.string ⟨#[]⟩, .int .i64 0, .int .i64 0, .string fm, .string ⟨#[]⟩, .int .i64 (nth zs len 0), .int .i64 (nth zs len 1), .int .i64 (nth zs len 2), .int .i64 len]) (by simp [results, Yba.results5, go_sem]) rfl ⟨rfl, ((Below.refl _ _).alloc (Nat.le_refl _) _).alloc (by simp) _⟩

theorem bcell {W w1 : World} (hb : Below W.heap.size W w1) : (∀ b o, b < W.heap.size → w1.cell? ⟨b, o, none⟩ = W.cell? ⟨b, o, none⟩) ∧ (∀ b o, b < W.heap.size → w1.frozen? ⟨b, o, none⟩ = W.frozen? ⟨b, o, none⟩) :=
  ⟨fun b o h => hb.cell (p := ⟨b, o, none⟩) h, fun b o h => hb.frozen (p := ⟨b, o, none⟩) h⟩

theorem IsRow.later {k : IntKind} {w w' : World} {a : Option Addr} {len cap : Nat} {zs : List Int} (hr : IsRow k w a len cap zs) (hb : Below w.heap.size w w') : IsRow k w' a len cap zs := by
  rcases hr with h | ⟨x, rfl, hl, hm, hz, hc, hw⟩
  · exact Or.inl h
  · exact Or.inr ⟨x, rfl, hl, hm, hz, fun i hi => (hb.cell (block_lt (hc i hi))).trans (hc i hi), hw⟩

set_option maxHeartbeats 400000 in
theorem named_any (nm fm : ByteArray) (a : Option Addr) (len cap : Nat) (zs : List Int) (w : World) (hr : IsRow .i64 w a len cap zs) :
    Calls Yba.prog 4 #[.string nm, .string fm, .slice a len cap] w fun e w' => e = .returned (.agg #[.string ⟨#[]⟩, .int .i64 0, .int .i64 0, .string fm, .string nm, .int .i64 (nth zs len 0), .int .i64 (nth zs len 1), .int .i64 (nth zs len 2), .int .i64 len]) ∧ Below w.heap.size w w' := by
  have hr1 : IsRow .i64 (w.alloc (.cells #[.string ⟨#[]⟩, .int .i64 0, .int .i64 0, .string ⟨#[]⟩, .string ⟨#[]⟩, .int .i64 0, .int .i64 0, .int .i64 0, .int .i64 0] 25)) a len cap zs := hr.later ((Below.refl _ _).alloc (Nat.le_refl _) _)
  have H : Hid _ := hr1
  clear hr1 hr
  go_enter Yba.func4, Yba.ntmps4
  go_wp2_with fail
  refine (faultf_any _ _ _ _ zs _ H.out).mono ?_
  rintro e w1 ⟨rfl, hb⟩
  obtain ⟨hc, hf⟩ := bcell hb
  have hz : w.heap.size < w1.heap.size := by have := hb.size; simp at this; omega
  go_wp2
  refine bodyPost_ret (v := .agg #[.string ⟨#[]⟩, .int .i64 0, .int .i64 0, .string fm, .string nm, .int .i64 (nth zs len 0), .int .i64 (nth zs len 1), .int .i64 (nth zs len 2), .int .i64 len]) (by simp [results, Yba.results4, go_sem, hc, hz]) rfl ⟨rfl, ?_⟩
  have h0 : Below w.heap.size w w1 := ((Below.refl _ _).alloc (Nat.le_refl _) _).trans (hb.mono (by simp))
  exact (((((((((h0.setCell (Nat.le_refl _) _).setCell (Nat.le_refl _) _).setCell (Nat.le_refl _) _).setCell (Nat.le_refl _) _).setCell (Nat.le_refl _) _).setCell (Nat.le_refl _) _).setCell (Nat.le_refl _) _).setCell (Nat.le_refl _) _).setCell (Nat.le_refl _) _).alloc (by simp; omega) _
end Go.Proofs.Ybulkdsru
