namespace Go.Proofs.YbulkdsruGreatDoor
set_option linter.unusedVariables false

/-- A time without a monotonic reading. -/
structure Tm where
  n : Int
  s : Int
deriving DecidableEq

/-- A member. -/
structure Mem where
  heard : Tm
  sent : Tm
  sender : Bool

def Tm.zero : Tm := ⟨0, 0⟩
def Mem.zero : Mem := ⟨.zero, .zero, false⟩

/-- The members, as a function of the source. -/
abbrev Ms := Int → Option Mem

def upd (f : Ms) (k : Int) (x : Option Mem) : Ms := fun j => if j = k then x else f j

theorem upd_same (f : Ms) (k : Int) (x : Option Mem) : upd f k x k = x := if_pos rfl
theorem upd_other (f : Ms) {k j : Int} (x : Option Mem) (h : j ≠ k) : upd f k x j = f j := if_neg h

def sentOf (m : Option Mem) : Tm := (m.getD .zero).sent
def sends (m : Option Mem) : Bool := (m.getD .zero).sender

def hear (now : Tm) (snd : Bool) (f : Ms) (k : Int) : Ms := upd f k (some ⟨now, if snd then now else sentOf (f k), snd⟩)
def leave (f : Ms) (k : Int) : Ms := upd f k none

/-- One event: 0 a sender's report, 1 a receiver's, else a goodbye. -/
def step (now : Tm) (f : Ms) (e : Int × Int) : Ms :=
  if e.1 = 0 then hear now true f e.2 else if e.1 = 1 then hear now false f e.2 else leave f e.2

def run (now : Tm) (f : Ms) (l : List (Int × Int)) : Ms := l.foldl (step now) f

theorem run_nil (now : Tm) (f : Ms) : run now f [] = f := rfl
theorem run_snoc (now : Tm) (f : Ms) (l : List (Int × Int)) (e : Int × Int) : run now f (l ++ [e]) = step now (run now f l) e := by simp [run]
theorem run_append (now : Tm) (f : Ms) (l m : List (Int × Int)) : run now f (l ++ m) = run now (run now f l) m := by simp [run]

theorem step_other (now : Tm) (f : Ms) (e : Int × Int) {k : Int} (h : k ≠ e.2) : step now f e k = f k := by
  unfold step hear leave
  split
  · exact upd_other _ _ h
  · split
    · exact upd_other _ _ h
    · exact upd_other _ _ h

theorem take_succ {α} (l : List α) (i : Nat) (h : i < l.length) : l.take (i + 1) = l.take i ++ [l[i]] := by
  rw [List.take_add_one]; simp [h]

theorem run_succ (now : Tm) (f : Ms) (l : List (Int × Int)) (i : Nat) (h : i < l.length) : run now f (l.take (i + 1)) = step now (run now f (l.take i)) l[i] := by
  rw [take_succ l i h, run_snoc]

theorem run_succ_other (now : Tm) (f : Ms) (l : List (Int × Int)) (i : Nat) (h : i < l.length) {k : Int} (hk : (l[i]).2 ≠ k) : run now f (l.take (i + 1)) k = run now f (l.take i) k := by
  rw [run_succ now f l i h]; exact step_other _ _ _ (fun e => hk e.symm)

theorem run_succ_0 (now : Tm) (f : Ms) (l : List (Int × Int)) (i : Nat) (h : i < l.length) {k : Int} (hk : (l[i]).2 = k) (h0 : (l[i]).1 = 0) : run now f (l.take (i + 1)) k = some ⟨now, now, true⟩ := by
  rw [run_succ now f l i h]; unfold step hear; rw [if_pos h0, hk, upd_same]; rfl

theorem run_succ_1 (now : Tm) (f : Ms) (l : List (Int × Int)) (i : Nat) (h : i < l.length) {k : Int} (hk : (l[i]).2 = k) (h1 : (l[i]).1 = 1) : run now f (l.take (i + 1)) k = some ⟨now, sentOf (run now f (l.take i) k), false⟩ := by
  rw [run_succ now f l i h]; unfold step hear; rw [if_neg (by rw [h1]; decide), if_pos h1, hk, upd_same]; rfl

theorem run_succ_2 (now : Tm) (f : Ms) (l : List (Int × Int)) (i : Nat) (h : i < l.length) {k : Int} (hk : (l[i]).2 = k) (h0 : (l[i]).1 ≠ 0) (h1 : (l[i]).1 ≠ 1) : run now f (l.take (i + 1)) k = none := by
  rw [run_succ now f l i h]; unfold step leave; rw [if_neg h0, if_neg h1, hk, upd_same]

/-- Where the last event at k, among the first i, lies (-1: nowhere). -/
def Last (now : Tm) (f : Ms) (l : List (Int × Int)) (k : Int) (i : Nat) (last : Int) : Prop :=
  (last = -1 ∧ run now f (l.take i) k = f k) ∨ ∃ j : Nat, last = j ∧ j < i ∧ ∃ h : j < l.length, (l[j]).2 = k ∧ run now f (l.take i) k = run now f (l.take (j + 1)) k

theorem last_zero (now : Tm) (f : Ms) (l : List (Int × Int)) (k : Int) : Last now f l k 0 (-1) := .inl ⟨rfl, rfl⟩

theorem last_hit (now : Tm) (f : Ms) (l : List (Int × Int)) (k : Int) (i : Nat) (h : i < l.length) (hk : (l[i]).2 = k) : Last now f l k (i + 1) i :=
  .inr ⟨i, rfl, Nat.lt_succ_self _, h, hk, rfl⟩

theorem last_miss (now : Tm) (f : Ms) (l : List (Int × Int)) (k : Int) (i : Nat) (h : i < l.length) (hk : (l[i]).2 ≠ k) {last : Int} (hl : Last now f l k i last) : Last now f l k (i + 1) last := by
  rcases hl with ⟨e, h1⟩ | ⟨j, e, hj, hjl, hk2, h1⟩
  · exact .inl ⟨e, by rw [run_succ_other now f l i h hk, h1]⟩
  · exact .inr ⟨j, e, by omega, hjl, hk2, by rw [run_succ_other now f l i h hk, h1]⟩

theorem last_range {now : Tm} {f : Ms} {l : List (Int × Int)} {k : Int} {i : Nat} {last : Int} (hl : Last now f l k i last) : -1 ≤ last ∧ last < i := by
  rcases hl with ⟨e, h1⟩ | ⟨j, e, hj, _⟩ <;> omega

/-! ### senders are counted -/
def cntS (f : Ms) (keys : List Int) : Nat := keys.countP (fun k => sends (f k))

theorem cntS_upd_out (f : Ms) (k : Int) (x : Option Mem) : ∀ (keys : List Int), k ∉ keys → cntS (upd f k x) keys = cntS f keys
  | [], _ => rfl
  | j :: r, h => by
    have h1 : j ≠ k := fun e => h (by simp [e])
    have h2 : k ∉ r := fun e => h (by simp [e])
    have ih := cntS_upd_out f k x r h2
    unfold cntS at ih ⊢
    rw [List.countP_cons, List.countP_cons, ih, upd_other _ _ h1]

theorem cntS_upd (f : Ms) (k : Int) (x : Option Mem) : ∀ (keys : List Int), keys.Nodup → k ∈ keys →
    (cntS (upd f k x) keys : Int) = (cntS f keys : Int) - (sends (f k)).toNat + (sends x).toNat
  | [], _, h => by simp at h
  | j :: r, hn, h => by
    rw [List.nodup_cons] at hn
    by_cases e : j = k
    · subst e
      have ih := cntS_upd_out f j x r hn.1
      unfold cntS at ih ⊢
      rw [List.countP_cons, List.countP_cons, ih, upd_same]
      cases sends x <;> cases sends (f j) <;> simp
    · have hk : k ∈ r := by
        rcases List.mem_cons.1 h with e2 | e2
        · exact absurd e2.symm e
        · exact e2
      have ih := cntS_upd f k x r hn.2 hk
      unfold cntS at ih ⊢
      rw [List.countP_cons, List.countP_cons, upd_other _ _ e]
      omega

theorem cntS_le (f : Ms) (keys : List Int) : cntS f keys ≤ keys.length := List.countP_le_length

theorem cntS_take_succ (f : Ms) (keys : List Int) (i : Nat) (h : i < keys.length) : cntS f (keys.take (i + 1)) = cntS f (keys.take i) + (sends (f keys[i])).toNat := by
  unfold cntS
  rw [take_succ keys i h, List.countP_append]
  simp [List.countP_cons]
  cases sends (f keys[i]) <;> rfl

/-! ### what the members' keys are -/
/-- Every member's key lies among keys. -/
def Within (f : Ms) (keys : List Int) : Prop := ∀ k, (f k).isSome = true → k ∈ keys

theorem within_upd {f : Ms} {keys : List Int} (h : Within f keys) {k : Int} (hk : k ∈ keys) (x : Option Mem) : Within (upd f k x) keys := by
  intro j hj
  by_cases e : j = k
  · exact e ▸ hk
  · rw [upd_other _ _ e] at hj; exact h j hj

theorem within_step {f : Ms} {keys : List Int} (h : Within f keys) {now : Tm} {e : Int × Int} (hk : e.2 ∈ keys) : Within (step now f e) keys := by
  unfold step hear leave
  split
  · exact within_upd h hk _
  · split <;> exact within_upd h hk _

theorem within_run {keys : List Int} {now : Tm} : ∀ (l : List (Int × Int)) {f : Ms}, Within f keys → (∀ e ∈ l, e.2 ∈ keys) → Within (run now f l) keys
  | [], f, h, _ => h
  | e :: r, f, h, hk => within_run r (f := step now f e) (within_step h (hk e (by simp))) (fun x hx => hk x (by simp [hx]))

/-- The part of f whose keys lie in l. -/
def only (f : Ms) (l : List Int) : Ms := fun k => if k ∈ l then f k else none

theorem only_nil (f : Ms) : only f [] = fun _ => none := by funext k; simp [only]
theorem only_all {f : Ms} {keys : List Int} (h : Within f keys) : only f keys = f := by
  funext k
  unfold only
  split
  · rfl
  · rename_i hk
    cases e : f k with
    | none => rfl
    | some m => exact absurd (h k (by simp [e])) hk
theorem only_snoc (f : Ms) (l : List Int) (k : Int) : only f (l ++ [k]) = upd (only f l) k (f k) := by
  funext j
  unfold only upd
  by_cases e : j = k
  · subst e; simp
  · simp [e]
theorem only_snoc_none {f : Ms} (l : List Int) {k : Int} (h : f k = none) : only f (l ++ [k]) = only f l := by
  funext j
  unfold only
  by_cases e : j = k
  · subst e; simp [h]
  · simp [e]

end Go.Proofs.YbulkdsruGreatDoor
