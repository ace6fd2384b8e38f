import Derived.Test.YbulkdsruGreatDoorLg
namespace Go.Proofs.YbulkdsruGreatDoor
open Go.RowKit Go.Op
set_option linter.unusedVariables false
set_option linter.unusedSimpArgs false
/-- i has come up. -/
def upL (ls : Nat → Bool) (i : Nat) : Nat → Bool := fun j => if j = i then true else ls j
/-- What one operation is asked; the condition hangs on what has come up. -/
def OneOp3 (P : Program) (ops : Array Oper) (a0 : Act) (C : (Nat → Bool) → Act → World → Prop) (ψ : Nat → Value → Prop) (Q : Exit → Act → World → Prop) (i : Nat) (o : Oper) : Prop :=
  ∀ (ls : Nat → Bool) (a : Act) (w : World), ls i = false → (∀ e ∈ o.after.toList, Region.binds .any e = true → ls e.on = true) → C ls a w → (∀ t, o.dst = some t → t < a.tmps.size) → (∀ t, (∀ o' ∈ ops.toList, o'.dst ≠ some t) → a.tmps.getD t undef = a0.tmps.getD t undef) → (∀ t ∈ needs ops o, ψ t (a.tmps.getD t undef)) →
    o.wp P a w (fun a' w' => ∃ v, a' = a.put o.dst v ∧ (∀ t, o.dst = some t → ψ t v) ∧ C (upL ls i) a' w') Q
structure St3 (ops : Array Oper) (a0 : Act) (C : (Nat → Bool) → Act → World → Prop) (ψ : Nat → Value → Prop) (listed : Array Bool) (a : Act) (w : World) : Prop where
  cls : C (fun i => listed.getD i false) a w
  size : a.tmps.size = a0.tmps.size
  dfs : a.defers = a0.defers
  same : ∀ t, (∀ o' ∈ ops.toList, o'.dst ≠ some t) → a.tmps.getD t undef = a0.tmps.getD t undef
  done : ∀ i o t, ops[i]? = some o → listed.getD i false = true → o.dst = some t → ψ t (a.tmps.getD t undef)
  lsize : listed.size = ops.size
theorem wpAny_ls {P : Program} {ops : Array Oper} {a0 : Act} {C : (Nat → Bool) → Act → World → Prop} {ψ : Nat → Value → Prop} {Q : Exit → Act → World → Prop}
    (hg : ∀ o ∈ ops.toList, ∀ j b, o.guard = some (j, b) → ∃ t, ((ops[j]?).bind (·.dst)) = some t ∧ t ∈ needs ops o ∧ ∀ v, ψ t v → v = .bool b) (hord : ∀ (i : Nat) (o : Oper) (e : Edge), ops[i]? = some o → e ∈ o.after.toList → Region.binds .any e = true → e.on < i) (hin : ∀ o ∈ ops.toList, ∀ t, o.dst = some t → t < a0.tmps.size)
    (each : ∀ i o, ops[i]? = some o → OneOp3 P ops a0 C ψ Q i o)
    (fin : ∀ ls a w, (∀ i, i < ops.size → ls i = true) → C ls a w → a.tmps.size = a0.tmps.size → a.defers = a0.defers → (∀ t, (∀ o' ∈ ops.toList, o'.dst ≠ some t) → a.tmps.getD t undef = a0.tmps.getD t undef) → (∀ o ∈ ops.toList, ∀ t, o.dst = some t → ψ t (a.tmps.getD t undef)) → Q .normal a w) :
    ∀ (fuel : Nat) (listed : Array Bool) (a : Act) (w : World), St3 ops a0 C ψ listed a w → (List.range ops.size).countP (fun i => !listed.getD i true) ≤ fuel → wpAny P .any ops Q fuel listed a w := by
  have memAt : ∀ (i : Nat) o, ops[i]? = some o → o ∈ ops.toList := fun i o h => by
    rw [← Array.getElem?_toList] at h; exact List.mem_of_getElem? h
  -- where nothing is ready, all has come up
  have all : ∀ listed : Array Bool, listed.size = ops.size → Region.ready .any ops listed = [] → ∀ i, i < ops.size → listed.getD i false = true := by
    intro listed hls hr i
    induction i using Nat.strongRecOn with
    | ind i ih =>
      intro hi
      cases hl : listed.getD i false with
      | true => rfl
      | false =>
        exfalso
        have hm : i ∈ Region.ready .any ops listed := by
          unfold Region.ready
          rw [List.mem_filter]
          refine ⟨List.mem_range.2 hi, ?_⟩
          have h1 : listed.getD i true = false := by
            have hil : i < listed.size := by omega
            simp only [Array.getD, hil, dif_pos] at hl ⊢
            exact hl
          rw [h1]
          have ho : ops[i]? = some ops[i] := Array.getElem?_eq_getElem hi
          rw [ho]
          simp only [Bool.not_false, Bool.true_and, Option.map_some, Option.getD_some]
          rw [Array.all_eq_true_iff_forall_mem]
          intro e he
          cases hb : Region.binds .any e with
          | false => rfl
          | true =>
            have hlt := hord i ops[i] e ho (by simpa using he) hb
            rw [ih e.on hlt (by omega)]
            rfl
        rw [hr] at hm
        cases hm
  have ending : ∀ listed a w, St3 ops a0 C ψ listed a w → Region.ready .any ops listed = [] → Q .normal a w := by
    intro listed a w st hr
    refine fin _ a w (fun i hi => all listed st.lsize hr i hi) st.cls st.size st.dfs st.same fun o ho t ht => ?_
    obtain ⟨i, hi, e⟩ := List.getElem_of_mem ho
    have hi' : ops[i]? = some o := by
      rw [← Array.getElem?_toList, List.getElem?_eq_getElem hi, e]
    exact st.done i o t hi' (all listed st.lsize hr i (by simpa using hi)) ht
  intro fuel
  induction fuel with
  | zero =>
    intro listed a w st hc
    have hr : Region.ready .any ops listed = [] := by
      unfold Region.ready
      rw [List.filter_eq_nil_iff]
      intro i hi hcon
      have h0 : (List.range ops.size).countP (fun i => !listed.getD i true) = 0 := by omega
      rw [List.countP_eq_zero] at h0
      have := h0 i hi
      simp only [Bool.and_eq_true] at hcon
      exact this hcon.1
    exact ⟨hr, ending listed a w st hr⟩
  | succ fuel ih =>
    intro listed a w st hc
    refine ⟨fun hr => ending listed a w st hr, fun i hi => ?_⟩
    unfold Region.ready at hi
    rw [List.mem_filter] at hi
    obtain ⟨hir, hcond⟩ := hi
    have hi : i < ops.size := List.mem_range.1 hir
    have ho : ops[i]? = some ops[i] := Array.getElem?_eq_getElem hi
    rw [ho] at hcond
    simp only [Bool.and_eq_true, Option.map_some, Option.getD_some] at hcond
    obtain ⟨hnl, haf⟩ := hcond
    rw [Array.all_eq_true_iff_forall_mem] at haf
    have hmem := memAt i ops[i] ho
    unfold wpOp
    rw [ho]
    simp only []
    have hneed : ∀ t ∈ needs ops ops[i], ψ t (a.tmps.getD t undef) := by
      intro t ht
      unfold needs at ht
      rw [List.mem_filterMap] at ht
      obtain ⟨e, he, h⟩ := ht
      by_cases hb : Region.binds .any e = true
      · rw [if_pos hb] at h
        obtain ⟨o', ho', hd⟩ := Option.bind_eq_some_iff.1 h
        have := haf e (by simpa using he)
        rw [hb] at this
        exact st.done e.on o' t ho' (by simpa using this) hd
      · rw [if_neg hb] at h; cases h
    have hw : Region.wanted ops[i] (yielded ops a.tmps) = true := by
      unfold Region.wanted
      cases hgd : ops[i].guard with
      | none => rfl
      | some p =>
        obtain ⟨j, b⟩ := p
        obtain ⟨t, ht1, ht2, ht3⟩ := hg _ hmem j b hgd
        have hv := ht3 _ (hneed t ht2)
        have hget : a.tmps[t]? = some (.bool b) := by
          rw [Array.getD_eq_getD_getElem?] at hv
          cases hq : a.tmps[t]? with
          | none => rw [hq] at hv; cases hv
          | some x => rw [hq] at hv; exact congrArg some hv
        have hy : yielded ops a.tmps j = some b := by
          unfold yielded
          rw [ht1]
          simp only [Option.bind_some, hget]
        simp [hy]
    rw [if_pos hw]
    left
    have hnl' : listed.getD i false = false := by
      have hs : i < listed.size := by rw [st.lsize]; exact hi
      simp only [Array.getD, hs, dif_pos] at hnl ⊢
      simpa using hnl
    have hone := each i _ ho (fun j => listed.getD j false) a w hnl' (fun e he hb => by
      have := haf e (by simpa using he)
      rw [hb] at this
      simpa using this) st.cls (fun t ht => by rw [st.size]; exact hin _ hmem t ht) st.same hneed
    refine Oper.wp_mono ?_ hone
    · rintro a' w' ⟨v, rfl, hψ, hC⟩
      have hnew : ∀ t, (a.put ops[i].dst v).tmps.getD t undef = if ops[i].dst = some t then v else a.tmps.getD t undef := by
        intro t
        unfold Act.put
        cases hd : ops[i].dst with
        | none => simp
        | some d =>
          have := hin _ hmem d hd
          simp only []
          rw [getD_set _ _ _ _ (by rw [st.size]; exact this)]
          by_cases e : d = t <;> simp [e]
      have hls : (fun j => (listed.setIfInBounds i true).getD j false) = upL (fun j => listed.getD j false) i := by
        unfold upL
        funext j
        have hs : i < listed.size := by rw [st.lsize]; exact hi
        simp only [Array.getD_eq_getD_getElem?, Array.getElem?_setIfInBounds]
        by_cases hij : i = j
        · subst hij; simp [hs]
        · simp [hij, Ne.symm hij]
      refine ih _ _ _ ⟨by rw [hls]; exact hC, ?_, ?_, ?_, ?_, by simpa using st.lsize⟩ ?_
      · unfold Act.put; cases ops[i].dst <;> simp [st.size]
      · unfold Act.put; cases ops[i].dst <;> simp [st.dfs]
      · intro t ht
        rw [hnew t, if_neg (ht _ hmem)]
        exact st.same t ht
      · intro j o t hj hl ht
        rw [hnew t]
        by_cases e : ops[i].dst = some t
        · rw [if_pos e]; exact hψ t e
        · rw [if_neg e]
          refine st.done j o t hj ?_ ht
          have hji : i ≠ j := by
            intro h; subst h
            rw [ho] at hj
            cases hj
            exact e ht
          simp only [Array.getD_eq_getD_getElem?, Array.getElem?_setIfInBounds, if_neg hji] at hl ⊢
          exact hl
      · have hlt : (List.range ops.size).countP (fun k => !(listed.setIfInBounds i true).getD k true) < (List.range ops.size).countP (fun k => !listed.getD k true) := by
          refine countP_lt _ (fun x _ hx => ?_) ⟨i, hir, hnl, ?_⟩
          · simp only [Array.getD_eq_getD_getElem?, Array.getElem?_setIfInBounds] at hx ⊢
            by_cases e : i = x
            · subst e
              by_cases hs : i < listed.size <;> simp [hs] at hx ⊢
            · simpa [e] using hx
          · have hs : i < listed.size := by rw [st.lsize]; exact hi
            simp [Array.getD_eq_getD_getElem?, hs]
        omega

def OneB3 (P : Program) (ops : Array Oper) (a0 : Act) (C : (Nat → Bool) → Act → World → Prop) (ψ : Nat → Value → Prop) (Q : Exit → Act → World → Prop) (i : Nat) (o : Oper) : Prop :=
  ∀ (ls : Nat → Bool) (a : Act) (w : World), ls i = false → (∀ j, (o.after.toList.any fun e => Region.binds .any e && e.on == j) = true → ls j = true) → C ls a w → (∀ t, o.dst = some t → t < a.tmps.size) → (∀ t, (ops.toList.all fun o' => o'.dst != some t) = true → a.tmps.getD t undef = a0.tmps.getD t undef) → (∀ t, (needs ops o).contains t = true → ψ t (a.tmps.getD t undef)) →
    o.wp P a w (fun a' w' => ∃ v, a' = a.put o.dst v ∧ (∀ t, o.dst = some t → ψ t v) ∧ C (upL ls i) a' w') Q

/-- A region that draws its order; the condition hangs on what has come up and on the frame. -/
theorem wp_region_ls {P : Program} {id : Nat} {ops : Array Oper} {a0 : Act} {w0 : World} (C : (Nat → Bool) → Act → World → Prop) (ψ : Nat → Value → Prop) (gl : List (Nat × Bool)) (dl : List Nat) {Q : Exit → Act → World → Prop}
    (hm : P.follows .mixedOrders = true) (h0 : ∀ ls, (∀ i, ls i = false) → C ls a0 w0.drew)
    (hg : (ops.toList.all fun o => match o.guard with | none => true | some (j, b) => match (ops[j]?).bind (·.dst) with | some t => (needs ops o).contains t && gl.contains (t, b) | none => false) = true) (hgl : ∀ p ∈ gl, ∀ v, ψ p.1 v → v = .bool p.2)
    (hord : ((List.range ops.size).all fun i => match ops[i]? with | some o => o.after.toList.all fun e => !Region.binds .any e || decide (e.on < i) | none => true) = true)
    (hin : (ops.toList.all fun o => match o.dst with | some t => decide (t < a0.tmps.size) | none => true) = true)
    (hdl : (ops.toList.all fun o => match o.dst with | some t => dl.contains t | none => true) = true)
    (each : ∀ p ∈ ops.toList.zipIdx, OneB3 P ops a0 C ψ Q p.2 p.1)
    (fin : ∀ (f : Nat → Value) ls a w, (∀ i, i < ops.size → ls i = true) → C ls a w → (∀ t, a.tmps.getD t undef = f t) → (∀ t, (ops.toList.any fun o' => o'.dst == some t) = true → ψ t (f t)) → Q .normal { tmps := dl.foldl (fun t d => t.setIfInBounds d (f d)) a0.tmps, defers := a0.defers } w) :
    (Code.region id ops true).wp P Q a0 w0 := by
  have tob : ∀ t, (ops.toList.all fun o' => o'.dst != some t) = true → ∀ o' ∈ ops.toList, o'.dst ≠ some t := by
    intro t h o' ho' e
    have := List.all_eq_true.1 h o' ho'
    simp [e] at this
  refine wp_region_any hm (wpAny_ls (a0 := a0) (C := C) (ψ := ψ) ?_ ?_ ?_ ?_ ?_ ops.size _ _ _ ⟨h0 _ (fun i => ?_), rfl, rfl, fun _ _ => rfl, fun i o t ho hl _ => ?_, by simp⟩ ?_)
  · intro o ho j b hgd
    have := List.all_eq_true.1 hg o ho
    rw [hgd] at this
    simp only at this
    cases hd : (ops[j]?).bind (·.dst) with
    | none => rw [hd] at this; cases this
    | some t =>
      rw [hd] at this
      simp only [Bool.and_eq_true] at this
      exact ⟨t, rfl, by simpa using this.1, fun v hv => hgl (t, b) (by simpa using this.2) v hv⟩
  · intro i o e ho he hb
    have hi : i < ops.size := (Array.getElem?_eq_some_iff.1 ho).1
    have := List.all_eq_true.1 hord i (List.mem_range.2 hi)
    rw [ho] at this
    simp only [] at this
    have := List.all_eq_true.1 this e he
    simpa [hb] using this
  · intro o ho t ht
    have := List.all_eq_true.1 hin o ho
    rw [ht] at this
    simpa using this
  · intro i o ho ls a w h1 h2 h3 hz h4 h5
    refine each (o, i) ?_ ls a w h1 ?_ h3 hz (fun t ht => h4 t (tob t ht)) (fun t ht => h5 t (by simpa using ht))
    · rw [List.mem_iff_getElem?]
      refine ⟨i, ?_⟩
      rw [List.getElem?_zipIdx, Array.getElem?_toList, ho]
      simp
    · intro j hj
      obtain ⟨e, he, h⟩ := List.any_eq_true.1 hj
      simp only [Bool.and_eq_true] at h
      have h6 := h2 e he h.1
      have h7 : e.on = j := by simpa using h.2
      rw [h7] at h6; exact h6
  · intro ls a w hls hC hz hd hs hp
    obtain ⟨ts, ds⟩ := a
    simp only at hd
    subst hd
    have ha : ts = dl.foldl (fun t d => t.setIfInBounds d (ts.getD d undef)) a0.tmps := by
      have h1 := arr_eq ts _ hz
      refine h1.trans (sets_eq (fun t => ts.getD t undef) dl a0.tmps ?_)
      intro i hi hn
      refine hs i (fun o ho e => ?_)
      have := List.all_eq_true.1 hdl o ho
      rw [e] at this
      simp only [List.contains_iff_mem] at this
      exact hn this
    have key := fin (fun t => ts.getD t undef) ls ⟨ts, a0.defers⟩ w hls hC (fun _ => rfl) (fun t ht => by
      obtain ⟨o, ho, h⟩ := List.any_eq_true.1 ht
      exact hp o ho t (by simpa using h))
    rw [← ha] at key
    exact key
  · by_cases hi : i < ops.size <;> simp [Array.getD_eq_getD_getElem?, hi]
  · simp [Array.getD_eq_getD_getElem?] at hl
    have hi : i < ops.size := (Array.getElem?_eq_some_iff.1 ho).1
    simp [hi] at hl
  · have := List.countP_le_length (p := fun i => !(Array.replicate ops.size false).getD i true) (l := List.range ops.size)
    simpa using this
end Go.Proofs.YbulkdsruGreatDoor
