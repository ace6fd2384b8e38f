import Derived.Test.YbulkdsruGreatDoorLb
import Derived.Test.YbulkdsruGreatDoorL2a
import Derived.Test.YbulkdsruGreatDoorEach2
namespace Go.Proofs.YbulkdsruGreatDoor
open Go.RowKit Go.Op
set_option linter.unusedVariables false
set_option linter.unusedSimpArgs false

theorem sets_get (f : Nat → Value) : ∀ (dl : List Nat) (t : Array Value), (dl.foldl (fun t d => t.setIfInBounds d (f d)) t).size = t.size ∧ ∀ i, i < t.size → (dl.foldl (fun t d => t.setIfInBounds d (f d)) t)[i]? = if i ∈ dl then some (f i) else t[i]?
  | [], t => ⟨rfl, fun i hi => by simp⟩
  | d :: dl, t => by
    have h := sets_get f dl (t.setIfInBounds d (f d))
    refine ⟨by simpa using h.1, fun i hi => ?_⟩
    rw [List.foldl_cons, h.2 i (by simpa using hi)]
    by_cases h1 : i ∈ dl
    · simp [h1]
    · by_cases h2 : d = i
      · subst h2; simp [h1, hi]
      · simp [h1, h2, Ne.symm h2, Array.getElem?_setIfInBounds]
theorem sets_eq (f : Nat → Value) (dl : List Nat) (t : Array Value) (h : ∀ i, i < t.size → i ∉ dl → f i = t.getD i undef) : ((List.range t.size).map f).toArray = dl.foldl (fun t d => t.setIfInBounds d (f d)) t := by
  have hs := sets_get f dl t
  apply Array.ext_getElem?
  intro i
  by_cases hi : i < t.size
  · rw [hs.2 i hi]
    simp [hi]
    intro hn
    rw [h i hi hn]
    simp [hi]
  · rw [Array.getElem?_eq_none (by simp; omega), Array.getElem?_eq_none (by rw [hs.1]; omega)]

/-- 'wp_region_last', the frame behind it by stores into the frame. -/
theorem wp_region_put {P : Program} {id : Nat} {ops : Array Oper} {a0 : Act} {w0 : World} (C C' : World → Prop) (ψ : Nat → Value → Prop) (L : Nat) (dl : List Nat) {Q : Exit → Act → World → Prop}
    (hm : P.follows .mixedOrders = true) (h0 : C w0.drew)
    (hg : (ops.toList.all fun o => o.guard.isNone) = true) (hord : ((List.range ops.size).all fun i => match ops[i]? with | some o => o.after.toList.all fun e => !Region.binds .any e || decide (e.on < i) | none => true) = true)
    (hin : (ops.toList.all fun o => match o.dst with | some t => decide (t < a0.tmps.size) | none => true) = true)
    (hL : (L + 1 == ops.size) = true) (hlast : ((List.range L).all fun i => (List.range (L + 1)).any fun j => decide (i < j) && (match ops[j]? with | some o => o.after.toList.any fun e => Region.binds .any e && e.on == i | none => false)) = true)
    (hdl : (ops.toList.all fun o => match o.dst with | some t => dl.contains t | none => true) = true)
    (each : ∀ o ∈ ops.toList.dropLast, OneB2 P ops a0 C C ψ Q o) (last : ∀ o ∈ ops.toList.getLast?, OneB2 P ops a0 C C' ψ Q o)
    (fin : ∀ (f : Nat → Value) w, C' w → (∀ t, (ops.toList.any fun o' => o'.dst == some t) = true → ψ t (f t)) → Q .normal { tmps := dl.foldl (fun t d => t.setIfInBounds d (f d)) a0.tmps, defers := a0.defers } w) :
    (Code.region id ops true).wp P Q a0 w0 := by
  refine wp_region_last C C' ψ L hm h0 hg hord hin hL hlast each last ?_
  intro f w hC hs hp
  rw [sets_eq f dl a0.tmps ?_]
  · exact fin f w hC hp
  · intro i hi hn
    refine hs i ?_
    rw [List.all_eq_true]
    intro o ho
    have := List.all_eq_true.1 hdl o ho
    cases hd : o.dst with
    | none => simp
    | some t =>
      rw [hd] at this
      simp only [List.contains_iff_mem] at this
      simp
      intro e
      subst e
      exact hn this

theorem Two.swap {b m : Nat} {w w' : World} (h : Two b m w w') : Two m b w w' := ⟨h.os, h.tape, h.output, h.size, fun k hk h1 h2 => h.block k hk h2 h1⟩
def seenV (ks : List Int) : Int → Option Value := fun k => if k ∈ ks then some (.bool true) else none
theorem seenV_upd (ks : List Int) (k : Int) : updV (seenV ks) k (some (.bool true)) = seenV (ks ++ [k]) := by
  funext j; unfold updV seenV
  by_cases h : j = k <;> simp [h]
def atT (d : Int) : Tm := ⟨nsF 0 d, addS 0 0 d⟩
theorem atT_ok (d : Int) : (atT d).ok := nsF_bounds (n := 0) (by omega) (by omega)

/-- The members, the seen ones and the keys, in the building. -/
structure Kys (w0 : World) (mb sb : Nat) (f : Ms) (ks : List Int) (vk : Value) (n : Nat) (w : World) : Prop where
  mem : ∃ c, mp w mb n c (vals f)
  sen : ∃ c, mp w sb n c (seenV ks)
  row : w.ownsRow w0.heap.size 24 1 vk ks.length (u32s ks)
  two : Two mb sb w0 w
section
variable {w0 w w' : World} {mb sb n : Nat} {f : Ms} {ks : List Int} {vk : Value}
theorem Kys.step (h : Kys w0 mb sb f ks vk n w) (hb : Below w.heap.size w w') : Kys w0 mb sb f ks vk n w' := by
  obtain ⟨⟨c1, h1⟩, ⟨c2, h2⟩, h3, h4⟩ := h
  refine ⟨⟨c1, mp_below h1 hb (mp_lt h1)⟩, ⟨c2, mp_below h2 hb (mp_lt h2)⟩, h3.kept (grown_none hb none) ?_, h4.trans (Two.below hb)⟩
  cases hq : vk.ownBlock <;> simp
theorem Kys.more (h : Kys w0 mb sb f ks vk n w) {n' : Nat} (hn : n ≤ n') : Kys w0 mb sb f ks vk n' w := by
  obtain ⟨⟨c1, h1⟩, ⟨c2, h2⟩, h3, h4⟩ := h
  exact ⟨⟨c1, mp_mono h1 hn⟩, ⟨c2, mp_mono h2 hn⟩, h3, h4⟩
theorem Kys.putM (h : Kys w0 mb sb f ks vk n w) (hms : mb ≠ sb) (hmb : mb < w0.heap.size) (ht : w.mapTurned w' mb) {m : Mem} {k : Int} {n' : Nat} (hm : ∃ c, mp w' mb n' c (updV (vals f) k (some (memV m)))) (hn : n ≤ n') : Kys w0 mb sb (upd f k (some m)) ks vk n' w' := by
  obtain ⟨⟨c1, h1⟩, ⟨c2, h2⟩, h3, h4⟩ := h
  obtain ⟨c, hm⟩ := hm
  have e := vals_upd f k (some m)
  rw [show (some m).map memV = some (memV m) from rfl] at e
  rw [e] at hm
  refine ⟨⟨c, hm⟩, ⟨c2, mp_mono (mp_block h2 (turned_other ht (Ne.symm hms))) hn⟩, h3.kept ht.grown ?_, (h4.swap.turned ht).swap⟩
  cases hq : vk.ownBlock with
  | none => exact .inl rfl
  | some k => exact .inr (fun e => by have := (h3.lt k hq).1; injection e with e; omega)
theorem Kys.putS (h : Kys w0 mb sb f ks vk n w) (hms : mb ≠ sb) (hsb : sb < w0.heap.size) (ht : w.mapTurned w' sb) {k : Int} {n' : Nat} (hm : ∃ c, mp w' sb n' c (updV (seenV ks) k (some (.bool true)))) (hn : n ≤ n') :
    (∃ c, mp w' mb n' c (vals f)) ∧ (∃ c, mp w' sb n' c (seenV (ks ++ [k]))) ∧ w'.ownsRow w0.heap.size 24 1 vk ks.length (u32s ks) ∧ Two mb sb w0 w' := by
  obtain ⟨⟨c1, h1⟩, ⟨c2, h2⟩, h3, h4⟩ := h
  obtain ⟨c, hm⟩ := hm
  rw [seenV_upd] at hm
  refine ⟨⟨c1, mp_mono (mp_block h1 (turned_other ht hms)) hn⟩, ⟨c, hm⟩, h3.kept ht.grown ?_, h4.turned ht⟩
  cases hq : vk.ownBlock with
  | none => exact .inl rfl
  | some k => exact .inr (fun e => by have := (h3.lt k hq).1; injection e with e; omega)
end

noncomputable def putW2 (W : World) (mb : Nat) (k : Int) (v : Value) : World :=
  match (Instr.mapUpdate 42 (.map (some mb)) (.int .u32 k) v).run Ybaz.prog W with
  | .ok _ w' => w'
  | _ => W
theorem putW2_run {W : World} {mb n c : Nat} {f : Int → Option Value} (h : mp W mb n c f) (hn : n < maxLen) {k : Int} (hk : u32ok k) (v : Value) :
    (Instr.mapUpdate 42 (.map (some mb)) (.int .u32 k) v).run Ybaz.prog W = .ok () (putW2 W mb k v) ∧ (∃ c', mp (putW2 W mb k v) mb (n + 1) c' (updV f k (some v))) ∧ W.mapTurned (putW2 W mb k v) mb := by
  obtain ⟨w', hrun, r1, r2⟩ := mp_store h Ybaz.underlying42 hn hk v
  have e : putW2 W mb k v = w' := by unfold putW2; rw [hrun]
  rw [e]
  exact ⟨hrun, r1, r2⟩

/-- 'keys = append(keys, k)', behind 'seen[k] = true'. -/
theorem wpList_appK {ops : Array Oper} {rest : List Oper} {o : Oper} {a : Act} {Q : Exit → Act → World → Prop} (k : Int) {w0 w : World} {mb sb n : Nat} {f : Ms} {ks : List Int} {vk : Value}
    (hm : ∃ c, mp w mb n c (vals f)) (hsn : ∃ c, mp w sb n c (seenV (ks ++ [k]))) (hrow : w.ownsRow w0.heap.size 24 1 vk ks.length (u32s ks)) (htwo : Two mb sb w0 w) (hmb : mb < w0.heap.size) (hsb : sb < w0.heap.size) (hgd : o.guard = none) (s x : Operand)
    (ho : o.op = .call { callee := .builtin .append, args := #[s, x], argTypes := #[26, 26] }) (hs : a.eval s = vk) (c : Nat) (hx : a.eval x = .slice (some ⟨w.heap.size, 0, none⟩) 1 c) (hlen : ks.length + 1 ≤ 100000000)
    (h : ∀ vk' w', Kys w0 mb sb f (ks ++ [k]) vk' n w' → wpList Ybaz.prog ops Q rest (a.put o.dst vk') w') :
    wpList Ybaz.prog ops Q (o :: rest) a (w.alloc (.cells #[.int .u32 k] 24)) := by
  obtain ⟨i, hi, hz0, hz1, hz2⟩ := info_parts info24
  have hb : Below w.heap.size w (w.alloc (.cells #[.int .u32 k] 24)) := (Below.refl _ w).alloc (Nat.le_refl _) _
  have hrow' : (w.alloc (.cells #[.int .u32 k] 24)).ownsRow w0.heap.size 24 1 vk ks.length (u32s ks) := hrow.kept (grown_none hb none) (by cases hq : vk.ownBlock <;> simp)
  have hmx : ks.length + 1 ≤ maxLen := Nat.le_trans hlen (by decide)
  refine wpList_append_lies _ hgd s x 26 ho w0.heap.size 24 i (.int .u32 0) 1 4 Ybaz.underlying26 hi hz0 hz1 hz2 rfl (by decide) vk ks.length (u32s ks) hs hrow' ⟨w.heap.size, 0, none⟩ 1 c [.int .u32 k] hx rfl ?_ ?_ (by decide) hmx (by omega) (Nat.le_trans htwo.size hb.size) _ rfl ?_
  · exact World.news_of_block (MapKept.heap_alloc w _).1
  · intro u hu
    simp at hu
    subst hu; rfl
  · intro g cap w' h1 h2 h3 h4
    refine h _ w' ?_
    obtain ⟨c1, hm⟩ := hm
    obtain ⟨c2, hsn⟩ := hsn
    have hm' := mp_below hm hb (mp_lt hm)
    have hs' := mp_below hsn hb (mp_lt hsn)
    have own : ∀ j, j < w0.heap.size → vk.ownBlock ≠ some j := fun j hj e => by have := (hrow'.lt j e).1; omega
    refine ⟨⟨c1, mp_block hm' (h2.block mb (mp_lt hm') (fun e => own mb hmb e.symm))⟩, ⟨c2, mp_block hs' (h2.block sb (mp_lt hs') (fun e => own sb hsb e.symm))⟩, ?_, ?_⟩
    · have e : u32s (ks ++ [k]) = u32s ks ++ [.int .u32 k] := by simp [u32s]
      rw [e]
      have e2 : (ks ++ [k]).length = ks.length + 1 := by simp
      rw [e2]
      exact h1
    · have t1 : Two mb sb w0 (w.alloc (.cells #[.int .u32 k] 24)) := htwo.trans (Two.below hb)
      exact ⟨h2.os.trans t1.os, h2.tape.trans t1.tape, h2.output.trans t1.output, Nat.le_trans t1.size h2.size, fun j hj h5 h6 => (h2.block j (Nat.lt_of_lt_of_le hj t1.size) (fun e => own j hj e.symm)).trans (t1.block j hj h5 h6)⟩
end Go.Proofs.YbulkdsruGreatDoor
