import Derived.Test.YbulkdsruGreatDoorLp
namespace Go.Proofs.YbulkdsruGreatDoor
open Go.RowKit Go.Op
set_option linter.unusedVariables false
set_option linter.unusedSimpArgs false

theorem row_take {w : World} {base : Nat} {e : TypeId} {size : Nat} {v : Value} {n : Nat} {xs : List Value} (h : w.ownsRow base e size v n xs) (hn : 0 < n) :
    ∃ g cap, v = .slice (some ⟨g, 0, none⟩) n cap ∧ base ≤ g ∧ g < w.heap.size ∧ n ≤ cap := by
  rcases h.2 with ⟨_, h0⟩ | ⟨g, cap, cur, h1, h2, h3, h4, _⟩
  · omega
  · exact ⟨g, cap, h1, h2, (Array.getElem?_eq_some_iff.1 h3).1, h4⟩
theorem rowE_of {w : World} {base g cap : Nat} {es : List (Int × Int)} (h : w.ownsRow base 33 2 (.slice (some ⟨g, 0, none⟩) es.length cap) es.length (evCells es)) : RowE w g es := by
  intro i e he
  have hi : i < es.length := (List.getElem?_eq_some_iff.1 he).1
  obtain ⟨h1, h2⟩ := evCells_get es i e he
  exact ⟨(h.cellAt (i * 2) (by omega)).trans h1, (h.cellAt (i * 2 + 1) (by omega)).trans h2⟩
theorem row32_of {w : World} {base g cap : Nat} {ks : List Int} (h : w.ownsRow base 24 1 (.slice (some ⟨g, 0, none⟩) ks.length cap) ks.length (u32s ks)) : Row32 w g ks := by
  intro i v hv
  have hi : i < ks.length := (List.getElem?_eq_some_iff.1 hv).1
  rw [h.cellAt i (by omega)]
  simp [u32s, hv]
theorem evl_kinds (ps : List Pk) : ∀ e ∈ evl ps, e.1 = 0 ∨ e.1 = 1 ∨ e.1 = 2 := by
  intro e he
  obtain ⟨q, hq, he⟩ := List.mem_flatMap.1 he
  cases q with
  | sr s => simp [Pk.evs] at he; simp [he]
  | rr s => simp [Pk.evs] at he; simp [he]
  | bye l => simp [Pk.evs] at he; obtain ⟨a, _, rfl⟩ := he; simp
  | sdes => simp [Pk.evs] at he
theorem evl_u32 {ps : List Pk} (h : ∀ q ∈ ps, q.ok) : ∀ e ∈ evl ps, u32ok e.2 := by
  intro e he
  obtain ⟨q, hq, he⟩ := List.mem_flatMap.1 he
  have := h q hq
  cases q with
  | sr s => simp [Pk.evs] at he; rw [he]; exact this
  | rr s => simp [Pk.evs] at he; rw [he]; exact this
  | bye l => simp [Pk.evs] at he; obtain ⟨a, ha, rfl⟩ := he; exact this.2 a ha
  | sdes => simp [Pk.evs] at he
theorem pks_ok {w : World} {ap : Option Addr} {l : List IP} {first fs : Int} (h : RowP w ap l) (hf : u32ok fs) : ∀ q ∈ pks first fs l, q.ok := by
  intro q hq
  rcases List.mem_cons.1 hq with rfl | hq
  · exact fstP_ok first fs hf
  obtain ⟨x, hx, rfl⟩ := List.mem_map.1 hq
  obtain ⟨i, hi, hxi⟩ := List.mem_iff_getElem.1 hx
  obtain ⟨g, o, _, _, _, h4, h5, _, _, _, h6⟩ := h i x (by rw [List.getElem?_eq_getElem hi, hxi])
  unfold IP.pk
  split
  · exact h4
  · split
    · exact h4
    · split
      · refine ⟨by simp [List.length_take]; omega, fun s hs => ?_⟩
        obtain ⟨j, hj, hs⟩ := List.mem_iff_getElem.1 (List.mem_of_mem_take hs)
        obtain ⟨_, _, _, _, h7, _⟩ := h6 j s (by rw [List.getElem?_eq_getElem hj, hs])
        exact h7
      · trivial
theorem rowM_u32 {w : World} {ai : Option Addr} {l : List IM} (h : RowM w ai l) : ∀ k ∈ l.map IM.s, u32ok k := by
  intro k hk
  obtain ⟨x, hx, rfl⟩ := List.mem_map.1 hk
  obtain ⟨i, hi, hxi⟩ := List.mem_iff_getElem.1 hx
  obtain ⟨g, o, _, _, h3, _⟩ := h i x (by rw [List.getElem?_eq_getElem hi, hxi])
  exact h3
theorem pks_head (first fs : Int) (l : List IP) : ∃ p r, pks first fs l = p :: r ∧ (p.typ = 200 ∨ p.typ = 201) := by
  refine ⟨_, _, rfl, ?_⟩
  unfold fstP; split <;> simp [Pk.typ]
theorem pks_evs (first fs : Int) (l : List IP) : 0 < (evl (pks first fs l)).length := by
  unfold pks fstP evl; split <;> simp [Pk.evs]
end Go.Proofs.YbulkdsruGreatDoor
