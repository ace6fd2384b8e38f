/- A LAW FOR A REGION THAT DRAWS ITS ORDER, op by op: each operation, once those that it waits for have left what their slots' predicates say, leaves what its own slot's predicate says, in a world of the class. Then so does the region, in whatever order. (For operations whose value is not one in every world: a float operation that gives a NaN draws its bits.) -/
import Derived.WalkKit
import Derived.Eval
namespace Go.Proofs.YbulkdsruGreatDoor

theorem countP_lt {p q : Nat → Bool} : ∀ (l : List Nat), (∀ x ∈ l, q x = true → p x = true) → (∃ x ∈ l, p x = true ∧ q x = false) → l.countP q < l.countP p
  | [], _, h => by obtain ⟨x, hx, _⟩ := h; cases hx
  | y :: l, hs, h => by
    have hs' : ∀ x ∈ l, q x = true → p x = true := fun x hx => hs x (List.mem_cons_of_mem _ hx)
    have le : l.countP q ≤ l.countP p := List.countP_mono_left hs'
    rw [List.countP_cons, List.countP_cons]
    by_cases hy : p y = true ∧ q y = false
    · simp [hy.1, hy.2]; omega
    · obtain ⟨x, hx, h1, h2⟩ := h
      rcases List.mem_cons.1 hx with rfl | hx
      · exact absurd ⟨h1, h2⟩ hy
      · have := countP_lt l hs' ⟨x, hx, h1, h2⟩
        have hyq := hs y (List.mem_cons_self ..)
        cases hq : q y
        · simp; split <;> omega
        · simp [hyq hq]; omega

/-- The slots that an operation waits for. -/
def needs (ops : Array Oper) (o : Oper) : List Nat := o.after.toList.filterMap fun e => if Region.binds .any e then (ops[e.on]?).bind (·.dst) else none

/-- What one operation is asked. -/
def OneOp (P : Program) (ops : Array Oper) (a0 : Act) (C : World → Prop) (ψ : Nat → Value → Prop) (Q : Exit → Act → World → Prop) (o : Oper) : Prop :=
  ∀ (a : Act) (w : World), C w → (∀ t, (∀ o' ∈ ops.toList, o'.dst ≠ some t) → a.tmps.getD t undef = a0.tmps.getD t undef) → (∀ t ∈ needs ops o, ψ t (a.tmps.getD t undef)) →
    o.wp P a w (fun a' w' => ∃ v, a' = a.put o.dst v ∧ (∀ t, o.dst = some t → ψ t v) ∧ C w') Q

structure St (ops : Array Oper) (a0 : Act) (C : World → Prop) (ψ : Nat → Value → Prop) (listed : Array Bool) (a : Act) (w : World) : Prop where
  cls : C w
  size : a.tmps.size = a0.tmps.size
  dfs : a.defers = a0.defers
  same : ∀ t, (∀ o' ∈ ops.toList, o'.dst ≠ some t) → a.tmps.getD t undef = a0.tmps.getD t undef
  done : ∀ i o t, ops[i]? = some o → listed.getD i false = true → o.dst = some t → ψ t (a.tmps.getD t undef)
  lsize : listed.size = ops.size

theorem getD_set (ts : Array Value) (d t : Nat) (v : Value) (h : d < ts.size) : (ts.setIfInBounds d v).getD t undef = if d = t then v else ts.getD t undef := by
  simp only [Array.getD_eq_getD_getElem?, Array.getElem?_setIfInBounds]
  by_cases e : d = t
  · subst e; simp [h]
  · simp [e]

theorem wpAny_each {P : Program} {ops : Array Oper} {a0 : Act} {C : World → Prop} {ψ : Nat → Value → Prop} {Q : Exit → Act → World → Prop}
    (hg : ∀ o ∈ ops.toList, o.guard = none) (hord : ∀ (i : Nat) (o : Oper) (e : Edge), ops[i]? = some o → e ∈ o.after.toList → Region.binds .any e = true → e.on < i) (hin : ∀ o ∈ ops.toList, ∀ t, o.dst = some t → t < a0.tmps.size)
    (each : ∀ o ∈ ops.toList, OneOp P ops a0 C ψ Q o)
    (fin : ∀ a w, C w → a.tmps.size = a0.tmps.size → a.defers = a0.defers → (∀ t, (∀ o' ∈ ops.toList, o'.dst ≠ some t) → a.tmps.getD t undef = a0.tmps.getD t undef) → (∀ o ∈ ops.toList, ∀ t, o.dst = some t → ψ t (a.tmps.getD t undef)) → Q .normal a w) :
    ∀ (fuel : Nat) (listed : Array Bool) (a : Act) (w : World), St ops a0 C ψ listed a w → (List.range ops.size).countP (fun i => !listed.getD i true) ≤ fuel → wpAny P .any ops Q fuel listed a w := by
  have memAt : ∀ (i : Nat) o, ops[i]? = some o → o ∈ ops.toList := fun i o h => by
    rw [← Array.getElem?_toList] at h; exact List.mem_of_getElem? h
  -- where nothing is ready, all has come up
  have all : ∀ listed : Array Bool, listed.size = ops.size → Region.ready .any ops listed = [] → ∀ i, i < ops.size → listed.getD i false = true := by
    intro listed hls hr i
    induction i using Nat.strongRecOn with
    | ind i ih =>
      intro hi
      cases hl : listed.getD i false with
      | true => rfl
      | false =>
        exfalso
        have hm : i ∈ Region.ready .any ops listed := by
          unfold Region.ready
          rw [List.mem_filter]
          refine ⟨List.mem_range.2 hi, ?_⟩
          have h1 : listed.getD i true = false := by
            have hil : i < listed.size := by omega
            simp only [Array.getD, hil, dif_pos] at hl ⊢
            exact hl
          rw [h1]
          have ho : ops[i]? = some ops[i] := Array.getElem?_eq_getElem hi
          rw [ho]
          simp only [Bool.not_false, Bool.true_and, Option.map_some, Option.getD_some]
          rw [Array.all_eq_true_iff_forall_mem]
          intro e he
          cases hb : Region.binds .any e with
          | false => rfl
          | true =>
            have hlt := hord i ops[i] e ho (by simpa using he) hb
            rw [ih e.on hlt (by omega)]
            rfl
        rw [hr] at hm
        cases hm
  have ending : ∀ listed a w, St ops a0 C ψ listed a w → Region.ready .any ops listed = [] → Q .normal a w := by
    intro listed a w st hr
    refine fin a w st.cls st.size st.dfs st.same fun o ho t ht => ?_
    obtain ⟨i, hi, e⟩ := List.getElem_of_mem ho
    have hi' : ops[i]? = some o := by
      rw [← Array.getElem?_toList, List.getElem?_eq_getElem hi, e]
    exact st.done i o t hi' (all listed st.lsize hr i (by simpa using hi)) ht
  intro fuel
  induction fuel with
  | zero =>
    intro listed a w st hc
    have hr : Region.ready .any ops listed = [] := by
      unfold Region.ready
      rw [List.filter_eq_nil_iff]
      intro i hi hcon
      have h0 : (List.range ops.size).countP (fun i => !listed.getD i true) = 0 := by omega
      rw [List.countP_eq_zero] at h0
      have := h0 i hi
      simp only [Bool.and_eq_true] at hcon
      exact this hcon.1
    exact ⟨hr, ending listed a w st hr⟩
  | succ fuel ih =>
    intro listed a w st hc
    refine ⟨fun hr => ending listed a w st hr, fun i hi => ?_⟩
    unfold Region.ready at hi
    rw [List.mem_filter] at hi
    obtain ⟨hir, hcond⟩ := hi
    have hi : i < ops.size := List.mem_range.1 hir
    have ho : ops[i]? = some ops[i] := Array.getElem?_eq_getElem hi
    rw [ho] at hcond
    simp only [Bool.and_eq_true, Option.map_some, Option.getD_some] at hcond
    obtain ⟨hnl, haf⟩ := hcond
    rw [Array.all_eq_true_iff_forall_mem] at haf
    have hmem := memAt i ops[i] ho
    unfold wpOp
    rw [ho]
    simp only []
    have hw : Region.wanted ops[i] (yielded ops a.tmps) = true := by simp [Region.wanted, hg _ hmem]
    rw [if_pos hw]
    left
    refine Oper.wp_mono ?_ (each _ hmem a w st.cls st.same fun t ht => ?_)
    · rintro a' w' ⟨v, rfl, hψ, hC⟩
      have hnew : ∀ t, (a.put ops[i].dst v).tmps.getD t undef = if ops[i].dst = some t then v else a.tmps.getD t undef := by
        intro t
        unfold Act.put
        cases hd : ops[i].dst with
        | none => simp
        | some d =>
          have := hin _ hmem d hd
          simp only []
          rw [getD_set _ _ _ _ (by rw [st.size]; exact this)]
          by_cases e : d = t <;> simp [e]
      refine ih _ _ _ ⟨hC, ?_, ?_, ?_, ?_, by simpa using st.lsize⟩ ?_
      · unfold Act.put; cases ops[i].dst <;> simp [st.size]
      · unfold Act.put; cases ops[i].dst <;> simp [st.dfs]
      · intro t ht
        rw [hnew t, if_neg (ht _ hmem)]
        exact st.same t ht
      · intro j o t hj hl ht
        rw [hnew t]
        by_cases e : ops[i].dst = some t
        · rw [if_pos e]; exact hψ t e
        · rw [if_neg e]
          refine st.done j o t hj ?_ ht
          have hji : i ≠ j := by
            intro h; subst h
            rw [ho] at hj
            cases hj
            exact e ht
          simp only [Array.getD_eq_getD_getElem?, Array.getElem?_setIfInBounds, if_neg hji] at hl ⊢
          exact hl
      · have hlt : (List.range ops.size).countP (fun k => !(listed.setIfInBounds i true).getD k true) < (List.range ops.size).countP (fun k => !listed.getD k true) := by
          refine countP_lt _ (fun x _ hx => ?_) ⟨i, hir, hnl, ?_⟩
          · simp only [Array.getD_eq_getD_getElem?, Array.getElem?_setIfInBounds] at hx ⊢
            by_cases e : i = x
            · subst e
              by_cases hs : i < listed.size <;> simp [hs] at hx ⊢
            · simpa [e] using hx
          · have hs : i < listed.size := by rw [st.lsize]; exact hi
            simp [Array.getD_eq_getD_getElem?, hs]
        omega
    · unfold needs at ht
      rw [List.mem_filterMap] at ht
      obtain ⟨e, he, h⟩ := ht
      by_cases hb : Region.binds .any e = true
      · rw [if_pos hb] at h
        obtain ⟨o', ho', hd⟩ := Option.bind_eq_some_iff.1 h
        have := haf e (by simpa using he)
        rw [hb] at this
        exact st.done e.on o' t ho' (by simpa using this) hd
      · rw [if_neg hb] at h; cases h

theorem arr_eq (ts : Array Value) (n : Nat) (h : ts.size = n) : ts = ((List.range n).map fun t => ts.getD t undef).toArray := by
  subst h
  refine Array.ext (by simp) fun i h1 h2 => ?_
  simp [Array.getD_eq_getD_getElem?, h1]
/-- What one operation is asked, its premises as closed tests. -/
def OneB (P : Program) (ops : Array Oper) (a0 : Act) (C : World → Prop) (ψ : Nat → Value → Prop) (Q : Exit → Act → World → Prop) (o : Oper) : Prop :=
  ∀ (a : Act) (w : World), C w → (∀ t, (ops.toList.all fun o' => o'.dst != some t) = true → a.tmps.getD t undef = a0.tmps.getD t undef) → (∀ t, (needs ops o).contains t = true → ψ t (a.tmps.getD t undef)) →
    o.wp P a w (fun a' w' => ∃ v, a' = a.put o.dst v ∧ (∀ t, o.dst = some t → ψ t v) ∧ C w') Q

theorem wp_region_each {P : Program} {id : Nat} {ops : Array Oper} {a0 : Act} {w0 : World} (C : World → Prop) (ψ : Nat → Value → Prop) {Q : Exit → Act → World → Prop}
    (hm : P.follows .mixedOrders = true) (h0 : C w0.drew)
    (hg : (ops.toList.all fun o => o.guard.isNone) = true) (hord : ((List.range ops.size).all fun i => match ops[i]? with | some o => o.after.toList.all fun e => !Region.binds .any e || decide (e.on < i) | none => true) = true)
    (hin : (ops.toList.all fun o => match o.dst with | some t => decide (t < a0.tmps.size) | none => true) = true)
    (each : ∀ o ∈ ops.toList, OneB P ops a0 C ψ Q o)
    (fin : ∀ (f : Nat → Value) w, C w → (∀ t, (ops.toList.all fun o' => o'.dst != some t) = true → f t = a0.tmps.getD t undef) → (∀ t, (ops.toList.any fun o' => o'.dst == some t) = true → ψ t (f t)) → Q .normal { tmps := ((List.range a0.tmps.size).map f).toArray, defers := a0.defers } w) :
    (Code.region id ops true).wp P Q a0 w0 := by
  have tob : ∀ t, (ops.toList.all fun o' => o'.dst != some t) = true → ∀ o' ∈ ops.toList, o'.dst ≠ some t := by
    intro t h o' ho' e
    have := List.all_eq_true.1 h o' ho'
    simp [e] at this
  refine wp_region_any hm (wpAny_each (a0 := a0) (C := C) (ψ := ψ) ?_ ?_ ?_ ?_ ?_ ops.size _ _ _ ⟨h0, rfl, rfl, fun _ _ => rfl, fun i o t ho hl _ => ?_, by simp⟩ ?_)
  · intro o ho
    have := List.all_eq_true.1 hg o ho
    simpa using this
  · intro i o e ho he hb
    have hi : i < ops.size := (Array.getElem?_eq_some_iff.1 ho).1
    have := List.all_eq_true.1 hord i (List.mem_range.2 hi)
    rw [ho] at this
    simp only [] at this
    have := List.all_eq_true.1 this e he
    simpa [hb] using this
  · intro o ho t ht
    have := List.all_eq_true.1 hin o ho
    rw [ht] at this
    simpa using this
  · intro o ho a w hC hs hn
    exact each o ho a w hC (fun t ht => hs t (tob t ht)) (fun t ht => hn t (by simpa using ht))
  · intro a w hC hz hd hs hp
    obtain ⟨ts, ds⟩ := a
    simp only at hd
    subst hd
    have ha := arr_eq ts _ hz
    rw [ha]
    refine fin (fun t => ts.getD t undef) w hC (fun t ht => hs t (tob t ht)) (fun t ht => ?_)
    obtain ⟨o, ho, h⟩ := List.any_eq_true.1 ht
    exact hp o ho t (by simpa using h)
  · simp [Array.getD_eq_getD_getElem?] at hl
    have hi : i < ops.size := (Array.getElem?_eq_some_iff.1 ho).1
    simp [hi] at hl
  · have := List.countP_le_length (p := fun i => !(Array.replicate ops.size false).getD i true) (l := List.range ops.size)
    simpa using this

end Go.Proofs.YbulkdsruGreatDoor
