import Derived.Test.YbulkdsruGreatDoorL4
namespace Go.Proofs.YbulkdsruGreatDoor
open Go.RowKit Go.Op
set_option linter.unusedVariables false
set_option linter.unusedSimpArgs false
def addAll (ks l : List Int) : List Int := l.foldl addK ks
theorem addAll_snoc (ks l : List Int) (s : Int) : addAll ks (l ++ [s]) = addK (addAll ks l) s := by simp [addAll]
theorem addK_sub {ks : List Int} {s k : Int} (h : k ∈ ks) : k ∈ addK ks s := by unfold addK; split <;> simp [h]
theorem addK_self (ks : List Int) (s : Int) : s ∈ addK ks s := by unfold addK; split <;> simp_all
theorem addK_mem {ks : List Int} {s k : Int} (h : k ∈ addK ks s) : k ∈ ks ∨ k = s := by
  unfold addK at h; split at h
  · exact .inl h
  · simpa using h
theorem addK_nodup {ks : List Int} (s : Int) (h : ks.Nodup) : (addK ks s).Nodup := by
  unfold addK; split
  · exact h
  · rename_i hn
    rw [List.nodup_append]
    refine ⟨h, by simp, ?_⟩
    intro a ha b hb
    simp at hb
    subst hb
    exact fun e => hn (e ▸ ha)
theorem addK_len (ks : List Int) (s : Int) : (addK ks s).length ≤ ks.length + 1 := by unfold addK; split <;> simp
theorem addAll_sub : ∀ (l ks : List Int) {k : Int}, k ∈ ks → k ∈ addAll ks l
  | [], ks, k, h => h
  | s :: l, ks, k, h => addAll_sub l (addK ks s) (addK_sub h)
theorem addAll_all : ∀ (l ks : List Int) {k : Int}, k ∈ l → k ∈ addAll ks l
  | s :: l, ks, k, h => by
    rcases List.mem_cons.1 h with rfl | h
    · exact addAll_sub l _ (addK_self ks k)
    · exact addAll_all l _ h
theorem addAll_mem : ∀ (l ks : List Int) {k : Int}, k ∈ addAll ks l → k ∈ ks ∨ k ∈ l
  | [], ks, k, h => .inl h
  | s :: l, ks, k, h => by
    rcases addAll_mem l (addK ks s) h with h | h
    · rcases addK_mem h with h | rfl
      · exact .inl h
      · exact .inr (by simp)
    · exact .inr (by simp [h])
theorem addAll_nodup : ∀ (l ks : List Int), ks.Nodup → (addAll ks l).Nodup
  | [], ks, h => h
  | s :: l, ks, h => addAll_nodup l _ (addK_nodup s h)
theorem addAll_len : ∀ (l ks : List Int), (addAll ks l).length ≤ ks.length + l.length
  | [], ks => Nat.le_refl _
  | s :: l, ks => by
    have h1 := addAll_len l (addK ks s)
    have h2 := addK_len ks s
    simp [addAll] at h1 ⊢
    omega
def memOf (l : List IM) : Ms := l.foldl (fun f x => upd f x.s (some ⟨atT x.h, atT x.t, x.b⟩)) (fun _ => none)
theorem memOf_snoc (l : List IM) (x : IM) : memOf (l ++ [x]) = upd (memOf l) x.s (some ⟨atT x.h, atT x.t, x.b⟩) := by simp [memOf]
def MemOk (f : Ms) : Prop := MsOk f
theorem msOk_upd {f : Ms} (h : MsOk f) (k : Int) (m : Mem) (hm : m.heard.ok ∧ m.sent.ok) : MsOk (upd f k (some m)) := by
  intro j q hq
  unfold upd at hq
  split at hq
  · cases hq; exact hm
  · exact h j q hq
theorem memOf_go (l : List IM) : ∀ (f : Ms), MsOk f → MsOk (l.foldl (fun f x => upd f x.s (some ⟨atT x.h, atT x.t, x.b⟩)) f) := by
  induction l with
  | nil => exact fun f h => h
  | cons x l ih => exact fun f h => ih _ (msOk_upd h _ _ ⟨atT_ok _, atT_ok _⟩)
theorem memOf_ok (l : List IM) : MsOk (memOf l) := memOf_go l _ (fun k m h => by cases h)
theorem memOf_in (l : List IM) : ∀ (f : Ms) (ks : List Int), Within f ks → Within (l.foldl (fun f x => upd f x.s (some ⟨atT x.h, atT x.t, x.b⟩)) f) (addAll ks (l.map IM.s)) := by
  induction l with
  | nil => exact fun f ks h => h
  | cons x l ih =>
    intro f ks h
    refine ih _ (addK ks x.s) ?_
    exact within_upd (fun k hk => addK_sub (h k hk)) (addK_self _ _) _
theorem memOf_within (l : List IM) : Within (memOf l) (addAll [] (l.map IM.s)) := memOf_in l _ _ (fun k h => by cases h)
theorem within_sub {f : Ms} {a b : List Int} (h : Within f a) (hs : ∀ k ∈ a, k ∈ b) : Within f b := fun k hk => hs k (h k hk)
theorem msOk_run {now : Tm} (hn : now.ok) : ∀ (l : List (Int × Int)) {f : Ms}, MsOk f → MsOk (run now f l)
  | [], f, h => h
  | e :: r, f, h => by
    refine msOk_run hn r (f := step now f e) ?_
    have hz : (Mem.zero).sent.ok := ⟨by decide, by decide⟩
    have hs : (sentOf (f e.2)).ok := by
      unfold sentOf
      cases hq : f e.2 with
      | none => exact hz
      | some q => exact (h _ _ hq).2
    unfold step hear leave
    split
    · exact msOk_upd h _ _ ⟨hn, by simpa using hn⟩
    · split
      · exact msOk_upd h _ _ ⟨hn, by simpa using hs⟩
      · intro j q hq
        unfold upd at hq
        split at hq
        · cases hq
        · exact h j q hq
/-- A row of events. -/
def RowE (w : World) (g : Nat) (es : List (Int × Int)) : Prop := ∀ i e, es[i]? = some e → w.cell? ⟨g, i * 2, none⟩ = some (.int .i64 e.1) ∧ w.cell? ⟨g, i * 2 + 1, none⟩ = some (.int .u32 e.2)
theorem RowE.block {w w' : World} {g : Nat} {es : List (Int × Int)} (h : RowE w g es) (e : w'.heap[g]? = w.heap[g]?) : RowE w' g es := fun i x hx => ⟨(World.cell?_of_block e).trans (h i x hx).1, (World.cell?_of_block e).trans (h i x hx).2⟩
theorem RowE.below {w w' : World} {B g : Nat} {es : List (Int × Int)} (h : RowE w g es) (hb : Below B w w') (hg : g < B) : RowE w' g es := h.block (hb.block g hg)
theorem evCells_get (es : List (Int × Int)) : ∀ (i : Nat) (e : Int × Int), es[i]? = some e → (evCells es)[i * 2]? = some (.int .i64 e.1) ∧ (evCells es)[i * 2 + 1]? = some (.int .u32 e.2) := by
  induction es with
  | nil => intro i e h; simp at h
  | cons x es ih =>
    intro i e h
    cases i with
    | zero => simp at h; subst h; exact ⟨rfl, rfl⟩
    | succ i =>
      have := ih i e (by simpa using h)
      rw [show (i + 1) * 2 = i * 2 + 2 by omega]
      exact this
theorem evCells_len (es : List (Int × Int)) : (evCells es).length = es.length * 2 := by
  induction es with
  | nil => rfl
  | cons x es ih => simp [evCells] at ih ⊢; omega
end Go.Proofs.YbulkdsruGreatDoor
