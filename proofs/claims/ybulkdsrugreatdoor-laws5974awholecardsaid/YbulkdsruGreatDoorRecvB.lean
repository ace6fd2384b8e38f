import Derived.Test.YbulkdsruGreatDoorRecv1
namespace Go.Proofs.YbulkdsruGreatDoor
open Go.RowKit Go.Op Go.Shelf
set_option linter.unusedVariables false
set_option linter.unusedSimpArgs false
attribute [local go_sem] Oper.semAt_some

/-- The events of the packets that have come. -/
def evsOf (ps : List Pk) (pre : List (Ix ps)) : List (Int × Int) := pre.flatMap (fun x => (ps[x.1]'x.2).evs)
theorem evsOf_snoc (ps : List Pk) (pre : List (Ix ps)) (x : Ix ps) : evsOf ps (pre ++ [x]) = evsOf ps pre ++ (ps[x.1]'x.2).evs := by simp [evsOf]
theorem evsOf_all (ps : List Pk) (xs : List (Ix ps)) (h : xs.map Subtype.val = List.range ps.length) : evsOf ps xs = ps.flatMap Pk.evs := by
  have := congrArg (List.flatMap Pk.evs) (map_all ps xs h)
  rw [List.flatMap_map] at this
  exact this

/-- A State in the midst of a compound: the members are f; of what lay in W0 only it and its map have turned. -/
structure RS (W0 : World) (b nn : Nat) (S : StV) (keys : List Int) (f : Ms) (Y : World) : Prop where
  st : Stt Y b { S with snd := (cntS f keys : Nat) }
  mm : ∃ c, mp Y S.mb nn c (vals f)
  two : Two b S.mb W0 Y

section
variable {W0 Y Y' : World} {b nn : Nat} {S : StV} {keys : List Int} {f : Ms}
theorem RS.step (h : RS W0 b nn S keys f Y) (hb : Below Y.heap.size Y Y') : RS W0 b nn S keys f Y' := by
  obtain ⟨h1, ⟨c, h2⟩, h3⟩ := h
  exact ⟨(hb.block b h1.lt).trans h1, ⟨c, mp_below h2 hb (mp_lt h2)⟩, h3.trans (Two.below hb)⟩
theorem RS.alloc (h : RS W0 b nn S keys f Y) (o : Obj) : RS W0 b nn S keys f (Y.alloc o) := h.step ((Below.refl _ _).alloc (Nat.le_refl _) _)
theorem RS.at (h : RS W0 b nn S keys f Y) {k : Nat} {o : Obj} (hk : W0.heap[k]? = some o) (h1 : k ≠ b) (h2 : k ≠ S.mb) : Y.heap[k]? = some o :=
  (h.two.block k (Array.getElem?_eq_some_iff.1 hk).1 h1 h2).trans hk
theorem RS.row (h : RS W0 b nn S keys f Y) {g o : Nat} {l : List Int} (hr : Row W0 g o l) (hg : g < W0.heap.size) (h1 : g ≠ b) (h2 : g ≠ S.mb) : Row Y g o l := hr.two h.two hg h1 h2
theorem RS.size (h : RS W0 b nn S keys f Y) : W0.heap.size ≤ Y.heap.size := h.two.size
theorem RS.heard {k : Int} {now : Tm} {snd : Bool} (h : RS W0 b nn S keys f Y) (hn : keys.Nodup) (hk : k ∈ keys)
    (h1 : Stt Y' b { { S with snd := ((cntS f keys : Nat) : Int) } with snd := ((cntS f keys : Nat) : Int) - (sends (f k)).toNat + snd.toNat }) (h2 : ∃ c', mp Y' S.mb (nn + 1) c' (vals (hear now snd f k))) (h3 : Two b S.mb Y Y') : RS W0 b (nn + 1) S keys (hear now snd f k) Y' := by
  refine ⟨?_, h2, h.two.trans h3⟩
  have e : ((cntS (hear now snd f k) keys : Nat) : Int) = ((cntS f keys : Nat) : Int) - (sends (f k)).toNat + snd.toNat := by
    unfold hear
    rw [cntS_upd f k _ keys hn hk]
    rfl
  rw [e]; exact h1
theorem RS.left {k : Int} (h : RS W0 b nn S keys f Y) (hn : keys.Nodup) (hk : k ∈ keys)
    (h1 : Stt Y' b { { S with snd := ((cntS f keys : Nat) : Int) } with snd := ((cntS f keys : Nat) : Int) - (sends (f k)).toNat }) (h2 : ∃ c', mp Y' S.mb nn c' (vals (leave f k))) (h3 : Two b S.mb Y Y') : RS W0 b nn S keys (leave f k) Y' := by
  refine ⟨?_, h2, h.two.trans h3⟩
  have e : ((cntS (leave f k) keys : Nat) : Int) = ((cntS f keys : Nat) : Int) - (sends (f k)).toNat := by
    unfold leave
    rw [cntS_upd f k _ keys hn hk]
    simp [sends, Mem.zero]
  rw [e]; exact h1
theorem RS.more (h : RS W0 b nn S keys f Y) {n' : Nat} (hn : nn ≤ n') : RS W0 b n' S keys f Y := by
  obtain ⟨h1, ⟨c, h2⟩, h3⟩ := h
  exact ⟨h1, ⟨c, mp_mono h2 hn⟩, h3⟩
theorem RS.own {α : Type} (hb : b < W0.heap.size) (hm : S.mb < W0.heap.size) (nn : List α → Nat) (ff : List α → Ms) : OwnFrom W0.heap.size (fun pre W => RS W0 b (nn pre) S keys (ff pre) W) := by
  intro s A B row hs hg hr
  have q : ∀ k, k < W0.heap.size → B.heap[k]? = A.heap[k]? := fun k hk => hg.block k (Nat.lt_of_lt_of_le hk hs.two.size) (fun e => by have := (hr k e.symm).1; omega)
  obtain ⟨c, h2⟩ := hs.mm
  exact ⟨(q b hb).trans hs.st, ⟨c, mp_block h2 (q _ hm)⟩, ownFrom_two W0 b S.mb s A B row hs.two hg hr⟩
theorem RS.fresh (h : RS W0 b nn S keys f Y) : RS Y b nn S keys f Y := ⟨h.st, h.mm, Two.refl _ _ _⟩
theorem RS.join {Z : World} (h : Two b S.mb W0 Y) (h' : RS Y b nn S keys f Z) : RS W0 b nn S keys f Z := ⟨h'.st, h'.mm, h.trans h'.two⟩
theorem RS.kp {f' : Ms} {n' : Nat} (h : RS W0 b nn S keys f W0) (h' : RS W0 b n' S keys f' Y) : KpB b W0 Y := by
  obtain ⟨c, hm⟩ := h.mm
  exact kpB_two_map h'.two hm
end

end Go.Proofs.YbulkdsruGreatDoor
