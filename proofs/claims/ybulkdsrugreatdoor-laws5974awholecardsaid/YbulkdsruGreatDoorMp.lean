import Derived.Test.YbulkdsruGreatDoorPk
import Derived.Maps.OwnSet
namespace Go.Proofs.YbulkdsruGreatDoor
open Go.RowKit Go.Op Go.ChangeMaps Go.MapKept
open Go.WideElems (Fit rd rg rd_key rg_of)
set_option linter.unusedVariables false
set_option linter.unusedSimpArgs false

/-- An element of a map is read as itself. -/
def idR (v : Value) : Option (DataW Value × List MemPlace) := some (.held v, [])

/-- The block b is a map of at most n entries, of which f k lies at k; it has c entries. -/
def mp (w : World) (b n c : Nat) (f : Int → Option Value) : Prop :=
  ∃ D, w.ownsMap Ybaz.prog 24 idR b n D ∧ (∀ k, u32ok k → Maps.has D (.int .u32 k) = (f k).isSome ∧ ∀ z, D.atKey (.int .u32 k) (.held z) = .held ((f k).getD z)) ∧ Maps.size D = c

theorem wf32 {k : Int} (h : u32ok k) : (Lit.int .u32 k).wf = true := by
  obtain ⟨h0, h1⟩ := h
  simp [Lit.wf, IntKind.min, IntKind.max, IntKind.signed, IntKind.bits]; omega
theorem key32 {k : Int} (h : u32ok k) : keyOf Ybaz.prog 24 (.int .u32 k) = some (.int .u32 k) := Maps.keyOf_int_mk Ybaz.underlying24 (wf32 h)
theorem keyed32 : Maps.Keyed Ybaz.prog 24 := Maps.int_keyed Ybaz.underlying24

def updV (f : Int → Option Value) (k : Int) (x : Option Value) : Int → Option Value := fun j => if j = k then x else f j

theorem mp_lt {w : World} {b n c : Nat} {f : Int → Option Value} (h : mp w b n c f) : b < w.heap.size := by
  obtain ⟨D, hD, _⟩ := h; exact hD.lt
theorem mp_block {w w' : World} {b n c : Nat} {f : Int → Option Value} (h : mp w b n c f) (e : w'.heap[b]? = w.heap[b]?) : mp w' b n c f := by
  obtain ⟨D, ⟨es, clock, hb, r⟩, r2⟩ := h
  exact ⟨D, ⟨es, clock, e.trans hb, r⟩, r2⟩
theorem mp_below {w w' : World} {B b n c : Nat} {f : Int → Option Value} (h : mp w b n c f) (hb : Below B w w') (hlt : b < B) : mp w' b n c f := mp_block h (hb.block b hlt)
theorem mp_mono {w : World} {b n n' c : Nat} {f : Int → Option Value} (h : mp w b n c f) (hn : n ≤ n') : mp w b n' c f := by
  obtain ⟨D, hD, r⟩ := h; exact ⟨D, hD.mono hn, r⟩
theorem mp_size_le {w : World} {b n c : Nat} {f : Int → Option Value} (h : mp w b n c f) : c ≤ n := by
  obtain ⟨D, hD, _, rfl⟩ := h; exact hD.size_le
theorem mp_congr {w : World} {b n c : Nat} {f f' : Int → Option Value} (h : mp w b n c f) (e : ∀ k, u32ok k → f k = f' k) : mp w b n c f' := by
  obtain ⟨D, hD, h1, h2⟩ := h
  exact ⟨D, hD, fun k hk => by rw [← e k hk]; exact h1 k hk, h2⟩

theorem mp_made (w : World) : mp (w.alloc (.map #[] 0)) w.heap.size 0 0 (fun _ => none) :=
  ⟨_, World.ownsMap_made w _ _ _, fun k hk => ⟨rfl, fun z => rfl⟩, rfl⟩

section
variable {w : World} {b n c : Nat} {f : Int → Option Value}

theorem mp_look (h : mp w b n c f) {t e : TypeId} (ht : Ybaz.prog.underlying t = some (.map 24 e)) {z : Value} (hz : (zeroValue e).run Ybaz.prog w = .ok z w) {k : Int} (hk : u32ok k) :
    (Instr.lookup t (.map (some b)) (.int .u32 k) false).run Ybaz.prog w = .ok ((f k).getD z) w := by
  obtain ⟨D, hD, h1, h2⟩ := h
  obtain ⟨v, ps, hrun, hv⟩ := hD.lookup keyed32 ht hz (zd := .held z) (zp := []) rfl (key32 hk)
  rw [(h1 k hk).2 z] at hv
  have : v = (f k).getD z := by
    simp only [idR, Option.some.injEq, Prod.mk.injEq, DataW.held.injEq] at hv
    exact hv.1
  rw [hrun, this]

theorem mp_look_ok (h : mp w b n c f) {t e : TypeId} (ht : Ybaz.prog.underlying t = some (.map 24 e)) {z : Value} (hz : (zeroValue e).run Ybaz.prog w = .ok z w) {k : Int} (hk : u32ok k) :
    (Instr.lookup t (.map (some b)) (.int .u32 k) true).run Ybaz.prog w = .ok (.tuple #[(f k).getD z, .bool (f k).isSome]) w := by
  obtain ⟨D, hD, h1, h2⟩ := h
  obtain ⟨v, ps, hrun, hv⟩ := hD.look_ok keyed32 ht hz (zd := .held z) (zp := []) rfl (key32 hk)
  rw [(h1 k hk).2 z] at hv
  have : v = (f k).getD z := by
    simp only [idR, Option.some.injEq, Prod.mk.injEq, DataW.held.injEq] at hv
    exact hv.1
  rw [hrun, this, (h1 k hk).1]

theorem mp_len (h : mp w b n c f) {t e : TypeId} (ht : Ybaz.prog.underlying t = some (.map 24 e)) (ty : TypeId) : (Builtin.len_ #[t] ty #[.map (some b)]).run Ybaz.prog w = .ok (.int .i64 c) w := by
  obtain ⟨D, hD, _, rfl⟩ := h
  exact hD.len ht ty

theorem lit_ne {k j : Int} (h : j ≠ k) : Lit.int .u32 j ≠ Lit.int .u32 k := by
  intro e; injection e with _ e2; exact h e2

theorem mp_store (h : mp w b n c f) {t e : TypeId} (ht : Ybaz.prog.underlying t = some (.map 24 e)) (hn : n < maxLen) {k : Int} (hk : u32ok k) (v : Value) :
    ∃ w', (Instr.mapUpdate t (.map (some b)) (.int .u32 k) v).run Ybaz.prog w = .ok () w' ∧ (∃ c', mp w' b (n + 1) c' (updV f k (some v))) ∧ w.mapTurned w' b := by
  obtain ⟨D, hD, h1, h2⟩ := h
  obtain ⟨w', hrun, hown, hturn⟩ := hD.store keyed32 ht hn (key32 hk) (d := .held v) (ps := []) (val := v) rfl
  refine ⟨w', hrun, ⟨_, D.put (.int .u32 k) (.held v), hown, fun j hj => ?_, rfl⟩, hturn⟩
  by_cases e : j = k
  · subst e
    refine ⟨?_, fun z => ?_⟩
    · rw [Maps.has_put_same (k := .int .u32 j) hD.isMap trivial]; simp [updV]
    · rw [Maps.atKey_put_same (k := .int .u32 j) hD.isMap trivial]; simp [updV]
  · refine ⟨?_, fun z => ?_⟩
    · rw [Maps.has_put_other (lit_ne e), (h1 j hj).1]; simp [updV, e]
    · rw [Maps.atKey_put_other (lit_ne e), (h1 j hj).2]; simp [updV, e]

theorem mp_drop (h : mp w b n c f) {t e : TypeId} (ht : Ybaz.prog.underlying t = some (.map 24 e)) {k : Int} (hk : u32ok k) (ty : TypeId) :
    ∃ w', (Builtin.delete_ #[t, 24] ty #[.map (some b), .int .u32 k]).run Ybaz.prog w = .ok (.tuple #[]) w' ∧ (∃ c', mp w' b n c' (updV f k none)) ∧ w.mapTurned w' b := by
  obtain ⟨D, hD, h1, h2⟩ := h
  obtain ⟨w', hrun, hown, hturn⟩ := hD.drop keyed32 ht (key32 hk) ty
  refine ⟨w', hrun, ⟨_, D.del (.int .u32 k), hown, fun j hj => ?_, rfl⟩, hturn⟩
  by_cases e : j = k
  · subst e
    refine ⟨?_, fun z => ?_⟩
    · rw [Maps.has_del_same]; simp [updV]
    · rw [Maps.atKey_del_same]; simp [updV]
  · refine ⟨?_, fun z => ?_⟩
    · rw [Maps.has_del_other (lit_ne e), (h1 j hj).1]; simp [updV, e]
    · rw [Maps.atKey_del_other (lit_ne e), (h1 j hj).2]; simp [updV, e]

end

/-! ### how many entries -/
theorem keyOf_int_inv {P : Program} {k : TypeId} {q : IntKind} (hk : P.underlying k = some (.int q)) {v : Value} {l : Lit} (h : keyOf P k v = some l) : ∃ a, l = .int q a ∧ (Lit.int q a).wf = true := by
  unfold keyOf at h
  rw [hk] at h
  simp only [mapKey, hk] at h
  cases v <;> simp at h
  obtain ⟨⟨rfl, hw⟩, rfl⟩ := h
  exact ⟨_, rfl, hw⟩

theorem own_keys_gen {P : Program} {k : TypeId} {q : IntKind} (hk : P.underlying k = some (.int q)) {R : Value → Option (DataW Value × List MemPlace)} {w : World} {b n : Nat} {es : List (Lit × DataW Value)} (h : w.ownsMap P k R b n (.map es)) :
    ∀ p ∈ es, ∃ a, p.1 = .int q a ∧ (Lit.int q a).wf = true := by
  obtain ⟨xs, clock, _, F, _, hD⟩ := h
  intro p hp
  injection hD with hD
  rw [hD] at hp
  have hp2 := (WideShapes.sorted_perm _).mem_iff.1 hp
  obtain ⟨x, hx, rfl⟩ := List.mem_map.1 hp2
  obtain ⟨y, hy⟩ := F.reads x hx
  rw [rg_of hy]
  exact keyOf_int_inv hk (rd_key hy)

theorem own_keys {w : World} {b n : Nat} {es : List (Lit × DataW Value)} (h : w.ownsMap Ybaz.prog 24 idR b n (.map es)) : ∀ p ∈ es, ∃ a, p.1 = .int .u32 a ∧ u32ok a := by
  intro p hp
  obtain ⟨a, e1, e2⟩ := own_keys_gen Ybaz.underlying24 h p hp
  refine ⟨a, e1, ?_⟩
  simp [Lit.wf, IntKind.min, IntKind.max, IntKind.signed, IntKind.bits] at e2
  exact ⟨by omega, by omega⟩

theorem nodup_len {α} [DecidableEq α] : ∀ (l m : List α), l.Nodup → (∀ x ∈ l, x ∈ m) → l.length ≤ m.length
  | [], m, _, _ => by simp
  | x :: l, m, hn, hs => by
    rw [List.nodup_cons] at hn
    have hx := hs x (by simp)
    have := nodup_len l (m.erase x) hn.2 (fun y hy => by
      rw [List.mem_erase_of_ne (by rintro rfl; exact hn.1 hy)]
      exact hs y (by simp [hy]))
    rw [List.length_erase_of_mem hx] at this
    have : 0 < m.length := List.length_pos_of_mem hx
    simp; omega

theorem keys_any {es : List (Lit × DataW Value)} {k : Lit} (h : es.any (fun p => p.1.sameKey k) = true) : k ∈ es.map Prod.fst := by
  obtain ⟨p, hp, hs⟩ := List.any_eq_true.1 h
  exact List.mem_map.2 ⟨p, hp, WideAt.sameKey_eq hs⟩
theorem any_keys {es : List (Lit × DataW Value)} {a : Int} (h : Lit.int .u32 a ∈ es.map Prod.fst) : es.any (fun p => p.1.sameKey (.int .u32 a)) = true := by
  obtain ⟨p, hp, e⟩ := List.mem_map.1 h
  exact List.any_eq_true.2 ⟨p, hp, by rw [e]; exact WideAt.sameKey_self trivial⟩

theorem mp_size_sub {w w' : World} {b b' n n' c c' : Nat} {f f' : Int → Option Value} (h : mp w b n c f) (h' : mp w' b' n' c' f') (e : ∀ k, u32ok k → (f k).isSome = true → (f' k).isSome = true) : c ≤ c' := by
  obtain ⟨D, hD, h1, rfl⟩ := h
  obtain ⟨D', hD', h1', rfl⟩ := h'
  obtain ⟨es, rfl, hp⟩ := hD.tidy keyed32
  obtain ⟨es', rfl, hp'⟩ := hD'.tidy keyed32
  rw [Maps.size_eq, Maps.size_eq]
  have l1 : es.length = (es.map Prod.fst).length := by simp
  have l2 : es'.length = (es'.map Prod.fst).length := by simp
  rw [l1, l2]
  classical
  refine nodup_len _ _ (List.pairwise_map.2 hp) (fun x hx => ?_)
  obtain ⟨p, hpm, rfl⟩ := List.mem_map.1 hx
  obtain ⟨a, ha, hok⟩ := own_keys hD p hpm
  rw [ha] at hx ⊢
  have q1 := (h1 a hok).1
  rw [Maps.has_eq, any_keys hx] at q1
  have q2 := (h1' a hok).1
  rw [e a hok q1.symm, Maps.has_eq] at q2
  exact keys_any q2

theorem mp_size_eq {w w' : World} {b b' n n' c c' : Nat} {f f' : Int → Option Value} (h : mp w b n c f) (h' : mp w' b' n' c' f') (e : ∀ k, u32ok k → (f k).isSome = (f' k).isSome) : c = c' :=
  Nat.le_antisymm (mp_size_sub h h' (fun k hk hh => by rw [← e k hk]; exact hh)) (mp_size_sub h' h (fun k hk hh => by rw [e k hk]; exact hh))

end Go.Proofs.YbulkdsruGreatDoor
