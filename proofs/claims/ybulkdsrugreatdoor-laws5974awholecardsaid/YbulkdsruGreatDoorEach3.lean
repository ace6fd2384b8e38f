import Derived.Test.YbulkdsruGreatDoorEach2
import Derived.OrdersIn
import Derived.RangeFuncCalls
namespace Go.Proofs.YbulkdsruGreatDoor
open Go.RowKit Go.Op
set_option linter.unusedVariables false
set_option linter.unusedSimpArgs false

/-- An operation that is no defer is carried out in a round as everywhere. -/
theorem oper_in {P : Program} {o : Oper} {a : Act} {w : World} {K : Act → World → Prop} {Q : Exit → Act → World → Prop} (l n : Nat) (hd : (match o.op with | .defer _ => false | _ => true) = true) (h : o.wp P a w K Q) : o.wpIn (Fence.wide.inRound l) n P a w K Q := by
  refine ⟨fun _ _ => trivial, ?_⟩
  have e : o.semAt (Fence.wide.inRound l).round a.eval = execOp a.eval o := Oper.semAt_eq _ _ _ (fun c hc => by rw [hc] at hd; cases hd)
  rw [e]
  unfold Oper.wp at h
  generalize (execOp a.eval o).run P w = r at h ⊢
  cases r with
  | ok x w' =>
    cases x with
    | value v => exact h
    | skip => exact h
    | defer d => exact h
    | enter f args => exact ⟨fun hh => by simp [Fence.wide] at hh, CallsIn.inRound l (callsIn_wide.2 h)⟩
    | row row args =>
      refine ⟨fun hh => by simp [Fence.wide] at hh, ?_⟩
      intro c cs hr
      obtain ⟨v, w2, r1, r2⟩ := h c cs
      exact ⟨v, w2, r1, stepsIn_wide.2 r2⟩
    | _ => exact h.elim
  | halt hh w' =>
    cases hh <;> first | exact h | exact h.elim

theorem wpAnyIn_last {P : Program} {ops : Array Oper} {a0 : Act} {C C' : World → Prop} {L : Nat} {l n : Nat} {ψ : Nat → Value → Prop} {Q : Exit → Act → World → Prop}
    (hg : ∀ o ∈ ops.toList, o.guard = none) (hdf : ∀ o ∈ ops.toList, (match o.op with | .defer _ => false | _ => true) = true) (hord : ∀ (i : Nat) (o : Oper) (e : Edge), ops[i]? = some o → e ∈ o.after.toList → Region.binds .any e = true → e.on < i) (hin : ∀ o ∈ ops.toList, ∀ t, o.dst = some t → t < a0.tmps.size)
    (hL : L + 1 = ops.size) (hlast : ∀ i, i < L → ∃ j o, i < j ∧ j ≤ L ∧ ops[j]? = some o ∧ ∃ e ∈ o.after.toList, Region.binds .any e = true ∧ e.on = i)
    (each : ∀ i o, i < L → ops[i]? = some o → OneOp2 P ops a0 C C ψ Q o) (last : ∀ o, ops[L]? = some o → OneOp2 P ops a0 C C' ψ Q o)
    (fin : ∀ a w, C' w → a.tmps.size = a0.tmps.size → a.defers = a0.defers → (∀ t, (∀ o' ∈ ops.toList, o'.dst ≠ some t) → a.tmps.getD t undef = a0.tmps.getD t undef) → (∀ o ∈ ops.toList, ∀ t, o.dst = some t → ψ t (a.tmps.getD t undef)) → Q .normal a w) :
    ∀ (fuel : Nat) (listed : Array Bool) (a : Act) (w : World), St2 ops a0 C C' ψ L listed a w → (List.range ops.size).countP (fun i => !listed.getD i true) ≤ fuel → wpAnyIn (Fence.wide.inRound l) n P .any ops Q fuel listed a w := by
  have memAt : ∀ (i : Nat) o, ops[i]? = some o → o ∈ ops.toList := fun i o h => by
    rw [← Array.getElem?_toList] at h; exact List.mem_of_getElem? h
  have allOf : ∀ listed : Array Bool, listed.getD L false = true → (∀ j o e, ops[j]? = some o → listed.getD j false = true → e ∈ o.after.toList → Region.binds .any e = true → listed.getD e.on false = true) → ∀ i, i ≤ L → listed.getD i false = true := by
    intro listed hl hcl
    have key : ∀ d i, i + d = L → listed.getD i false = true := by
      intro d
      induction d using Nat.strongRecOn with
      | ind d ih =>
        intro i hid
        by_cases hi : i = L
        · rw [hi]; exact hl
        · obtain ⟨j, o, h1, h2, h3, e, h4, h5, h6⟩ := hlast i (by omega)
          have := hcl j o e h3 (ih (L - j) (by omega) j (by omega)) h4 h5
          rw [h6] at this; exact this
    intro i hi
    exact key (L - i) i (by omega)
  -- where nothing is ready, all has come up
  have all : ∀ listed : Array Bool, listed.size = ops.size → Region.ready .any ops listed = [] → ∀ i, i < ops.size → listed.getD i false = true := by
    intro listed hls hr i
    induction i using Nat.strongRecOn with
    | ind i ih =>
      intro hi
      cases hl : listed.getD i false with
      | true => rfl
      | false =>
        exfalso
        have hm : i ∈ Region.ready .any ops listed := by
          unfold Region.ready
          rw [List.mem_filter]
          refine ⟨List.mem_range.2 hi, ?_⟩
          have h1 : listed.getD i true = false := by
            have hil : i < listed.size := by omega
            simp only [Array.getD, hil, dif_pos] at hl ⊢
            exact hl
          rw [h1]
          have ho : ops[i]? = some ops[i] := Array.getElem?_eq_getElem hi
          rw [ho]
          simp only [Bool.not_false, Bool.true_and, Option.map_some, Option.getD_some]
          rw [Array.all_eq_true_iff_forall_mem]
          intro e he
          cases hb : Region.binds .any e with
          | false => rfl
          | true =>
            have hlt := hord i ops[i] e ho (by simpa using he) hb
            rw [ih e.on hlt (by omega)]
            rfl
        rw [hr] at hm
        cases hm
  have ending : ∀ listed a w, St2 ops a0 C C' ψ L listed a w → Region.ready .any ops listed = [] → Q .normal a w := by
    intro listed a w st hr
    refine fin a w (st.cls1 (all listed st.lsize hr L (by omega))) st.size st.dfs st.same fun o ho t ht => ?_
    obtain ⟨i, hi, e⟩ := List.getElem_of_mem ho
    have hi' : ops[i]? = some o := by
      rw [← Array.getElem?_toList, List.getElem?_eq_getElem hi, e]
    exact st.done i o t hi' (all listed st.lsize hr i (by simpa using hi)) ht
  intro fuel
  induction fuel with
  | zero =>
    intro listed a w st hc
    have hr : Region.ready .any ops listed = [] := by
      unfold Region.ready
      rw [List.filter_eq_nil_iff]
      intro i hi hcon
      have h0 : (List.range ops.size).countP (fun i => !listed.getD i true) = 0 := by omega
      rw [List.countP_eq_zero] at h0
      have := h0 i hi
      simp only [Bool.and_eq_true] at hcon
      exact this hcon.1
    exact ⟨hr, ending listed a w st hr⟩
  | succ fuel ih =>
    intro listed a w st hc
    refine ⟨fun hr => ending listed a w st hr, fun i hi => ?_⟩
    unfold Region.ready at hi
    rw [List.mem_filter] at hi
    obtain ⟨hir, hcond⟩ := hi
    have hi : i < ops.size := List.mem_range.1 hir
    have ho : ops[i]? = some ops[i] := Array.getElem?_eq_getElem hi
    rw [ho] at hcond
    simp only [Bool.and_eq_true, Option.map_some, Option.getD_some] at hcond
    obtain ⟨hnl, haf⟩ := hcond
    rw [Array.all_eq_true_iff_forall_mem] at haf
    have hmem := memAt i ops[i] ho
    unfold wpOpIn
    rw [ho]
    simp only []
    have hw : Region.wanted ops[i] (yielded ops a.tmps) = true := by simp [Region.wanted, hg _ hmem]
    rw [if_pos hw]
    have hnl' : listed.getD i false = false := by
      have hs : i < listed.size := by rw [st.lsize]; exact hi
      simp only [Array.getD, hs, dif_pos] at hnl ⊢
      simpa using hnl
    have hLf : listed.getD L false = false := by
      cases hq : listed.getD L false with
      | false => rfl
      | true =>
        by_cases hiL : i = L
        · rw [hiL] at hnl'; rw [hnl'] at hq; exact hq.symm
        · have := allOf listed hq st.lst i (by omega)
          rw [hnl'] at this; exact this.symm ▸ rfl
    have hone : OneOp2 P ops a0 C (if i = L then C' else C) ψ Q ops[i] := by
      by_cases hiL : i = L
      · rw [if_pos hiL]; exact last _ (by rw [← hiL]; exact ho)
      · rw [if_neg hiL]; exact each i _ (by omega) ho
    refine Oper.wpIn_mono ?_ (oper_in l n (hdf _ hmem) (hone a w (st.cls0 hLf) st.same fun t ht => ?_))
    · rintro a' w' ⟨v, rfl, hψ, hC⟩
      have hnew : ∀ t, (a.put ops[i].dst v).tmps.getD t undef = if ops[i].dst = some t then v else a.tmps.getD t undef := by
        intro t
        unfold Act.put
        cases hd : ops[i].dst with
        | none => simp
        | some d =>
          have := hin _ hmem d hd
          simp only []
          rw [getD_set _ _ _ _ (by rw [st.size]; exact this)]
          by_cases e : d = t <;> simp [e]
      have hgL : (listed.setIfInBounds i true).getD L false = decide (i = L) := by
        simp only [Array.getD_eq_getD_getElem?, Array.getElem?_setIfInBounds]
        by_cases hiL : i = L
        · have hs : L < listed.size := by rw [st.lsize]; omega
          simp [hiL, hs]
        · simp only [if_neg hiL, hiL, decide_false]
          simpa [Array.getD_eq_getD_getElem?] using hLf
      refine ih _ _ _ ⟨?_, ?_, ?_, ?_, ?_, ?_, ?_, by simpa using st.lsize⟩ ?_
      · intro h
        rw [hgL] at h
        rw [if_neg (by simpa using h)] at hC; exact hC
      · intro h
        rw [hgL] at h
        rw [if_pos (by simpa using h)] at hC; exact hC
      · intro j o e hj hl he hb
        have hup : ∀ q, listed.getD q false = true → (listed.setIfInBounds i true).getD q false = true := by
          intro q hq
          simp only [Array.getD_eq_getD_getElem?, Array.getElem?_setIfInBounds] at hq ⊢
          by_cases hiq : i = q
          · subst hiq
            have hs : i < listed.size := by rw [st.lsize]; exact hi
            simp [hs]
          · simpa [hiq] using hq
        by_cases hji : i = j
        · subst hji
          rw [ho] at hj
          cases hj
          have h2 := haf e (by simpa using he)
          rw [hb] at h2
          exact hup _ (by simpa using h2)
        · refine hup _ (st.lst j o e hj ?_ he hb)
          simp only [Array.getD_eq_getD_getElem?, Array.getElem?_setIfInBounds, if_neg hji] at hl ⊢
          exact hl
      · unfold Act.put; cases ops[i].dst <;> simp [st.size]
      · unfold Act.put; cases ops[i].dst <;> simp [st.dfs]
      · intro t ht
        rw [hnew t, if_neg (ht _ hmem)]
        exact st.same t ht
      · intro j o t hj hl ht
        rw [hnew t]
        by_cases e : ops[i].dst = some t
        · rw [if_pos e]; exact hψ t e
        · rw [if_neg e]
          refine st.done j o t hj ?_ ht
          have hji : i ≠ j := by
            intro h; subst h
            rw [ho] at hj
            cases hj
            exact e ht
          simp only [Array.getD_eq_getD_getElem?, Array.getElem?_setIfInBounds, if_neg hji] at hl ⊢
          exact hl
      · have hlt : (List.range ops.size).countP (fun k => !(listed.setIfInBounds i true).getD k true) < (List.range ops.size).countP (fun k => !listed.getD k true) := by
          refine countP_lt _ (fun x _ hx => ?_) ⟨i, hir, hnl, ?_⟩
          · simp only [Array.getD_eq_getD_getElem?, Array.getElem?_setIfInBounds] at hx ⊢
            by_cases e : i = x
            · subst e
              by_cases hs : i < listed.size <;> simp [hs] at hx ⊢
            · simpa [e] using hx
          · have hs : i < listed.size := by rw [st.lsize]; exact hi
            simp [Array.getD_eq_getD_getElem?, hs]
        omega
    · unfold needs at ht
      rw [List.mem_filterMap] at ht
      obtain ⟨e, he, h⟩ := ht
      by_cases hb : Region.binds .any e = true
      · rw [if_pos hb] at h
        obtain ⟨o', ho', hd⟩ := Option.bind_eq_some_iff.1 h
        have := haf e (by simpa using he)
        rw [hb] at this
        exact st.done e.on o' t ho' (by simpa using this) hd
      · rw [if_neg hb] at h; cases h


/-- A region that draws its order and whose last operation waits for all others. -/
theorem wpIn_region_last {P : Program} {id : Nat} {ops : Array Oper} {a0 : Act} {w0 : World} (C C' : World → Prop) (ψ : Nat → Value → Prop) (L : Nat) {l n : Nat} {Q : Exit → Act → World → Prop}
    (hm : P.follows .mixedOrders = true) (h0 : C w0.drew)
    (hg : (ops.toList.all fun o => o.guard.isNone) = true) (hord : ((List.range ops.size).all fun i => match ops[i]? with | some o => o.after.toList.all fun e => !Region.binds .any e || decide (e.on < i) | none => true) = true)
    (hdf : (ops.toList.all fun o => match o.op with | .defer _ => false | _ => true) = true) (hin : (ops.toList.all fun o => match o.dst with | some t => decide (t < a0.tmps.size) | none => true) = true)
    (hL : (L + 1 == ops.size) = true) (hlast : ((List.range L).all fun i => (List.range (L + 1)).any fun j => decide (i < j) && (match ops[j]? with | some o => o.after.toList.any fun e => Region.binds .any e && e.on == i | none => false)) = true)
    (each : ∀ o ∈ ops.toList.dropLast, OneB2 P ops a0 C C ψ Q o) (last : ∀ o ∈ ops.toList.getLast?, OneB2 P ops a0 C C' ψ Q o)
    (fin : ∀ (f : Nat → Value) w, C' w → (∀ t, (ops.toList.all fun o' => o'.dst != some t) = true → f t = a0.tmps.getD t undef) → (∀ t, (ops.toList.any fun o' => o'.dst == some t) = true → ψ t (f t)) → Q .normal { tmps := ((List.range a0.tmps.size).map f).toArray, defers := a0.defers } w) :
    (Code.region id ops true).wpIn (Fence.wide.inRound l) n P Q a0 w0 := by
  have tob : ∀ t, (ops.toList.all fun o' => o'.dst != some t) = true → ∀ o' ∈ ops.toList, o'.dst ≠ some t := by
    intro t h o' ho' e
    have := List.all_eq_true.1 h o' ho'
    simp [e] at this
  have hL' : L + 1 = ops.size := by simpa using hL
  have turn : ∀ {C C' : World → Prop} {o}, OneB2 P ops a0 C C' ψ Q o → OneOp2 P ops a0 C C' ψ Q o := fun h a w hC hs hn => h a w hC (fun t ht => hs t (tob t ht)) (fun t ht => hn t (by simpa using ht))
  refine wpIn_region_any hm (wpAnyIn_last (a0 := a0) (C := C) (C' := C') (L := L) (ψ := ψ) ?_ (fun o ho => List.all_eq_true.1 hdf o ho) ?_ ?_ hL' ?_ ?_ ?_ ?_ ops.size _ _ _ ⟨fun _ => h0, fun h => ?_, fun j o e hj h => ?_, rfl, rfl, fun _ _ => rfl, fun i o t ho hl _ => ?_, by simp⟩ ?_)
  · intro o ho
    have := List.all_eq_true.1 hg o ho
    simpa using this
  · intro i o e ho he hb
    have hi : i < ops.size := (Array.getElem?_eq_some_iff.1 ho).1
    have := List.all_eq_true.1 hord i (List.mem_range.2 hi)
    rw [ho] at this
    simp only [] at this
    have := List.all_eq_true.1 this e he
    simpa [hb] using this
  · intro o ho t ht
    have := List.all_eq_true.1 hin o ho
    rw [ht] at this
    simpa using this
  · intro i hi
    have := List.all_eq_true.1 hlast i (List.mem_range.2 hi)
    obtain ⟨j, hj, h⟩ := List.any_eq_true.1 this
    have hj' := List.mem_range.1 hj
    simp only [Bool.and_eq_true] at h
    cases ho : ops[j]? with
    | none => rw [ho] at h; simp at h
    | some o =>
      rw [ho] at h
      obtain ⟨e, he, h2⟩ := List.any_eq_true.1 h.2
      simp only [Bool.and_eq_true] at h2
      exact ⟨j, o, by simpa using h.1, by omega, ho, e, he, h2.1, by simpa using h2.2⟩
  · intro i o hi ho
    refine turn (each o ?_)
    rw [List.mem_iff_getElem?]
    refine ⟨i, ?_⟩
    rw [List.getElem?_dropLast]
    rw [if_pos (by simp; omega)]
    simpa using ho
  · intro o ho
    refine turn (last o ?_)
    rw [List.getLast?_eq_getElem?]
    have : ops.toList.length - 1 = L := by simp; omega
    rw [this]
    simpa using ho
  · intro a w hC hz hd hs hp
    obtain ⟨ts, ds⟩ := a
    simp only at hd
    subst hd
    have ha := arr_eq ts _ hz
    rw [ha]
    refine fin (fun t => ts.getD t undef) w hC (fun t ht => hs t (tob t ht)) (fun t ht => ?_)
    obtain ⟨o, ho, h⟩ := List.any_eq_true.1 ht
    exact hp o ho t (by simpa using h)
  · exfalso
    simp [Array.getD_eq_getD_getElem?] at h
    have : L < ops.size := by omega
    simp [this] at h
  · exfalso
    simp [Array.getD_eq_getD_getElem?] at h
    have hi : j < ops.size := (Array.getElem?_eq_some_iff.1 hj).1
    simp [hi] at h
  · simp [Array.getD_eq_getD_getElem?] at hl
    have hi : i < ops.size := (Array.getElem?_eq_some_iff.1 ho).1
    simp [hi] at hl
  · have := List.countP_le_length (p := fun i => !(Array.replicate ops.size false).getD i true) (l := List.range ops.size)
    simpa using this

end Go.Proofs.YbulkdsruGreatDoor
