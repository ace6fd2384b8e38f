import Derived.Test.YbulkdsruGreatDoorPk
namespace Go.Proofs.YbulkdsruGreatDoor
open Go.RowKit Go.Op
set_option linter.unusedVariables false
set_option linter.unusedSimpArgs false

theorem nil_or {α} (l : List α) : l = [] ∨ ∃ x r, l = x :: r := by cases l <;> simp

/-- The slice that is left at a round's head. -/
def RestAt (g o cap : Nat) (ps : List Pk) (k : Nat) (x : Int) (r : Value) : Prop :=
  ∃ (pre rest : List Pk) (a : Addr) (c : Nat), ps = pre ++ rest ∧ rest.length = k ∧ x = pre.length + 1 ∧ r = .slice (some a) (flat rest).length c ∧ (rest ≠ [] → a = ⟨g, o + (flat pre).length, none⟩ ∧ c = cap - (flat pre).length)

set_option maxRecDepth 8000 in
set_option maxHeartbeats 4000000 in
attribute [local go_sem] setCell_id in
theorem checkall (g o cap : Nat) (ps : List Pk) (w : World) (hg : g < w.heap.size) (hok : ∀ p ∈ ps, p.ok) (hr : Row w g o (flat ps)) (hc : (flat ps).length ≤ cap) (hlen : ps.length < 1000000000)
    (h1 : ∃ p r, ps = p :: r ∧ (p.typ = 200 ∨ p.typ = 201)) :
    Calls Ybaz.prog 17 #[.slice (some ⟨g, o, none⟩) (flat ps).length cap] w fun e w' => e = .returned (.tuple #[.agg #[.slice (some ⟨g, o, none⟩) (flat ps).length cap], .agg #[.int .i64 0, .string ⟨#[]⟩, .int .i64 0, .int .i64 0, .string ⟨#[]⟩, .string ⟨#[]⟩, .int .i64 0, .int .i64 0, .int .i64 0, .int .i64 0], .bool true]) ∧ Below w.heap.size w w' := by
  have HG : Hid _ := hg
  have HB : Hid (Below w.heap.size w ((w.alloc (.cells #[.slice none 0 0] 35)).alloc (.cells #[.int .i64 0, .string ⟨#[]⟩, .int .i64 0, .int .i64 0, .string ⟨#[]⟩, .string ⟨#[]⟩, .int .i64 0, .int .i64 0, .int .i64 0, .int .i64 0] 73))) := (((Below.refl _ w).alloc (Nat.le_refl _) _).alloc (by simp) _)
  have hne : ¬ (flat ps).length = 0 := by
    obtain ⟨p, r, rfl, _⟩ := h1
    rw [flat_cons, List.length_append, p.len]; omega
  obtain ⟨L, hL⟩ : ∃ L, (flat ps).length = L := ⟨_, rfl⟩
  rw [hL] at hne ⊢
  have hne2 : ((L : Int) == 0) = false := by simp; omega
  clear hne
  have HOK : Hid _ := hok
  have HR : Hid (Row w g o (flat ps)) := hr
  have HH : Hid _ := h1
  have HL : Hid _ := hL
  clear hg hok hr h1 hL
  go_enter Ybaz.func17, Ybaz.ntmps17
  go_wp2_with fail
  go_loopg [5, 6] ps.length (fun k i r wr => ∃ x, i = .int .i64 x ∧ Hid (RestAt g o cap ps k x r) ∧ Hid (Below (w.heap.size + 2) ((w.alloc (.cells #[.slice none 0 0] 35)).alloc (.cells #[.int .i64 0, .string ⟨#[]⟩, .int .i64 0, .int .i64 0, .string ⟨#[]⟩, .string ⟨#[]⟩, .int .i64 0, .int .i64 0, .int .i64 0, .int .i64 0] 73)) wr))
  case atStart =>
    refine ⟨1, rfl, ⟨[], ps, ⟨g, o, none⟩, cap, rfl, rfl, rfl, by rw [HL.out], fun _ => ⟨rfl, rfl⟩⟩, Below.refl _ _⟩
  case round =>
    obtain ⟨x, rfl, hrest, hB⟩ := hrel
    obtain ⟨pre, rest, a, c, e1, e2, e3, e4, e5⟩ := hrest.out
    subst e4
    clear hrest
    rcases nil_or rest with h | ⟨p, rest', h⟩
    · subst h
      clear e1 e3 e5
      have q0 : wr.cell? ⟨w.heap.size + 1, 0, none⟩ = some (.int .i64 0) := (hB.out.cell (p := ⟨w.heap.size + 1, 0, none⟩) (by simp)).trans (by simp [go_sem])
      have f0 : wr.frozen? ⟨w.heap.size + 1, 0, none⟩ = false := (hB.out.frozen (p := ⟨w.heap.size + 1, 0, none⟩) (by simp)).trans (by simp [go_sem])
      have q1 : wr.cell? ⟨w.heap.size + 1, 1, none⟩ = some (.string ⟨#[]⟩) := (hB.out.cell (p := ⟨w.heap.size + 1, 1, none⟩) (by simp)).trans (by simp [go_sem])
      have f1 : wr.frozen? ⟨w.heap.size + 1, 1, none⟩ = false := (hB.out.frozen (p := ⟨w.heap.size + 1, 1, none⟩) (by simp)).trans (by simp [go_sem])
      have q2 : wr.cell? ⟨w.heap.size + 1, 2, none⟩ = some (.int .i64 0) := (hB.out.cell (p := ⟨w.heap.size + 1, 2, none⟩) (by simp)).trans (by simp [go_sem])
      have f2 : wr.frozen? ⟨w.heap.size + 1, 2, none⟩ = false := (hB.out.frozen (p := ⟨w.heap.size + 1, 2, none⟩) (by simp)).trans (by simp [go_sem])
      have q3 : wr.cell? ⟨w.heap.size + 1, 3, none⟩ = some (.int .i64 0) := (hB.out.cell (p := ⟨w.heap.size + 1, 3, none⟩) (by simp)).trans (by simp [go_sem])
      have f3 : wr.frozen? ⟨w.heap.size + 1, 3, none⟩ = false := (hB.out.frozen (p := ⟨w.heap.size + 1, 3, none⟩) (by simp)).trans (by simp [go_sem])
      have q4 : wr.cell? ⟨w.heap.size + 1, 4, none⟩ = some (.string ⟨#[]⟩) := (hB.out.cell (p := ⟨w.heap.size + 1, 4, none⟩) (by simp)).trans (by simp [go_sem])
      have f4 : wr.frozen? ⟨w.heap.size + 1, 4, none⟩ = false := (hB.out.frozen (p := ⟨w.heap.size + 1, 4, none⟩) (by simp)).trans (by simp [go_sem])
      have q5 : wr.cell? ⟨w.heap.size + 1, 5, none⟩ = some (.string ⟨#[]⟩) := (hB.out.cell (p := ⟨w.heap.size + 1, 5, none⟩) (by simp)).trans (by simp [go_sem])
      have f5 : wr.frozen? ⟨w.heap.size + 1, 5, none⟩ = false := (hB.out.frozen (p := ⟨w.heap.size + 1, 5, none⟩) (by simp)).trans (by simp [go_sem])
      have q6 : wr.cell? ⟨w.heap.size + 1, 6, none⟩ = some (.int .i64 0) := (hB.out.cell (p := ⟨w.heap.size + 1, 6, none⟩) (by simp)).trans (by simp [go_sem])
      have f6 : wr.frozen? ⟨w.heap.size + 1, 6, none⟩ = false := (hB.out.frozen (p := ⟨w.heap.size + 1, 6, none⟩) (by simp)).trans (by simp [go_sem])
      have q7 : wr.cell? ⟨w.heap.size + 1, 7, none⟩ = some (.int .i64 0) := (hB.out.cell (p := ⟨w.heap.size + 1, 7, none⟩) (by simp)).trans (by simp [go_sem])
      have f7 : wr.frozen? ⟨w.heap.size + 1, 7, none⟩ = false := (hB.out.frozen (p := ⟨w.heap.size + 1, 7, none⟩) (by simp)).trans (by simp [go_sem])
      have q8 : wr.cell? ⟨w.heap.size + 1, 8, none⟩ = some (.int .i64 0) := (hB.out.cell (p := ⟨w.heap.size + 1, 8, none⟩) (by simp)).trans (by simp [go_sem])
      have f8 : wr.frozen? ⟨w.heap.size + 1, 8, none⟩ = false := (hB.out.frozen (p := ⟨w.heap.size + 1, 8, none⟩) (by simp)).trans (by simp [go_sem])
      have q9 : wr.cell? ⟨w.heap.size + 1, 9, none⟩ = some (.int .i64 0) := (hB.out.cell (p := ⟨w.heap.size + 1, 9, none⟩) (by simp)).trans (by simp [go_sem])
      have f9 : wr.frozen? ⟨w.heap.size + 1, 9, none⟩ = false := (hB.out.frozen (p := ⟨w.heap.size + 1, 9, none⟩) (by simp)).trans (by simp [go_sem])
      have p0 : wr.cell? ⟨w.heap.size, 0, none⟩ = some (.slice none 0 0) := (hB.out.cell (p := ⟨w.heap.size, 0, none⟩) (by simp)).trans (by simp [go_sem])
      have pf0 : wr.frozen? ⟨w.heap.size, 0, none⟩ = false := (hB.out.frozen (p := ⟨w.heap.size, 0, none⟩) (by simp)).trans (by simp [go_sem])
      have el : (flat ([] : List Pk)).length = 0 := rfl
      rw [el]
      clear e2
      go_wp2_with fail
      refine bodyPost_ret (v := .tuple #[.agg #[.slice (some ⟨g, o, none⟩) L cap], .agg #[.int .i64 0, .string ⟨#[]⟩, .int .i64 0, .int .i64 0, .string ⟨#[]⟩, .string ⟨#[]⟩, .int .i64 0, .int .i64 0, .int .i64 0, .int .i64 0], .bool true]) (by simp [results, Ybaz.results17, go_sem, p0, q0, q1, q2, q3, q4, q5, q6, q7, q8, q9]) rfl ⟨rfl, ?_⟩
      exact (HB.out.trans (hB.out.mono (by omega))).setCell (by simp) _
    · subst h
      obtain ⟨ea, ec⟩ := e5 (by simp)
      subst ea
      clear e5
      have hpm : p ∈ ps := by rw [e1]; simp
      have PK : Hid p.ok := HOK.out p hpm
      have GG : Hid (g < wr.heap.size) := by have h1 := hB.out.size; have h2 := HG.out; simp at h1; exact Nat.lt_of_lt_of_le h2 (by omega)
      have hrow : Row wr g (o + (flat pre).length) (p.bytes ++ flat rest') := by
        have h2 := HR.out
        rw [e1, flat_append, flat_cons] at h2
        exact (h2.right.below HB.out HG.out).below hB.out (by have := HG.out; omega)
      have hle : (flat pre).length + (p.bytes.length + (flat rest').length) ≤ cap := by
        have := hc
        rw [e1, flat_append, flat_cons] at this
        simpa using this
      have hpl := p.len
      obtain ⟨M, hM⟩ : ∃ M, 4 + 4 * p.k = M := ⟨_, rfl⟩
      obtain ⟨o1, ho1⟩ : ∃ o1, o + (flat pre).length = o1 := ⟨_, rfl⟩
      obtain ⟨R, hR⟩ : ∃ R, (flat rest').length = R := ⟨_, rfl⟩
      have eL : (flat (p :: rest')).length = M + R := by rw [flat_cons, List.length_append, p.len, hM, hR]
      obtain ⟨c1, hc1⟩ : ∃ c1, c1 = c := ⟨_, rfl⟩
      subst hc1
      rw [ho1] at hrow
      rw [eL, ho1]
      have hcm : M + R ≤ c1 := by rw [ec]; omega
      have hcut := cut_pk p (flat rest') g o1 (M + R) c1 wr PK.out GG.out hrow (by rw [hpl]; omega) hcm
      rw [hM] at hcut
      have HK : Hid (∀ w', Below wr.heap.size wr w' → Calls Ybaz.prog 44 #[.agg #[.slice (some ⟨g, o1, none⟩) M c1, .int .i64 M]] w' fun e w'' => e = .returned fz ∧ Below w'.heap.size w' w'') := by
        intro w' hb
        have := check_pk p (flat rest') g o1 c1 M w' PK.out (by have := hb.size; have := GG.out; omega) (hrow.below hb GG.out) (by omega)
        rw [hM] at this
        exact this
      have HR0 : Hid (rest' ≠ [] → 0 < R) := by
        intro hh
        obtain ⟨y, ys, rfl⟩ := (nil_or rest').resolve_left hh
        rw [← hR, flat_cons, List.length_append, y.len]; omega
      have HM2 : Hid (2 ≤ M) := by show 2 ≤ M; omega
      have CT : Hid (wr.cell? ⟨g, o1 + 1, none⟩ = some (.int .u8 p.typ)) := hrow.c1
      have hMR : 0 < M + R := by omega
      have hMR2 : M ≤ M + R := by omega
      have hMc : M ≤ c1 := by omega
      have HN : Hid (Hid (∀ (a : Addr) (c : Nat), (rest' ≠ [] → a = ⟨g, o1 + M, none⟩ ∧ c = c1 - M) → RestAt g o cap ps rest'.length (x + 1) (.slice (some a) R c))) := by
        intro a c h
        refine ⟨pre ++ [p], rest', a, c, by rw [e1]; simp, rfl, by rw [e3]; simp, by rw [hR], fun hh => ?_⟩
        obtain ⟨h1, h2⟩ := h hh
        rw [flat_append, List.length_append, show flat [p] = p.bytes ++ flat [] from rfl, show flat ([] : List Pk) = [] from rfl, List.append_nil, p.len, hM]
        rw [h1, h2, ← ho1, ec]
        exact ⟨by rw [Nat.add_assoc], by omega⟩
      have EK : Hid (rest'.length + 1 = gk) := e2
      have hfirst : x = 1 → p.typ = 200 ∨ p.typ = 201 := by
        intro hx
        obtain ⟨p', r, h1, h2⟩ := HH.out
        have hp0 : pre = [] := by
          have : pre.length = 0 := by omega
          exact List.length_eq_zero_iff.1 this
        rw [e1, hp0] at h1
        simp at h1
        rw [h1.1]; exact h2
      have hxw : IntKind.i64.wrap (x + 1) = x + 1 := by
        have : pre.length ≤ ps.length := by rw [e1]; simp
        simp [IntKind.wrap, IntKind.bits, IntKind.signed]; omega
      obtain ⟨T, hT⟩ : ∃ T, p.typ = T := ⟨_, rfl⟩
      rw [hT] at CT hfirst
      clear e1 e2 e3 ec hpm hrow hle hpl hM ho1 hR eL hc hlen hT
      go_wp2_with fail
      go_at_call 41
      refine hcut.mono ?_
      clear hcut
      rintro e w1 ⟨rfl, hb1⟩
      have Bw1 : Hid (Below wr.heap.size wr w1) := hb1
      clear hb1
      unfold fz
      have ZZ : Hid (wr.heap.size ≤ w1.heap.size) := Bw1.out.size
      have B13 : Hid (Below wr.heap.size wr ((w1.alloc (.cells #[.slice (some ⟨g, o1, none⟩) M c1, .int .i64 M] 81)).alloc (.cells #[.string ⟨#[]⟩, .int .i64 0, .int .i64 0, .string ⟨#[]⟩, .string ⟨#[]⟩, .int .i64 0, .int .i64 0, .int .i64 0, .int .i64 0] 71))) := Bw1.out.trans ((((Below.refl _ w1).alloc (Nat.le_refl _) _).alloc (by simp) _).mono ZZ.out)
      have HZ : Hid (w.heap.size + 2 ≤ wr.heap.size) := by have h1 := hB.out.size; simp at h1; exact h1
      by_cases hx : x = 1
      · subst hx
        rcases hfirst rfl with hT | hT
        · subst hT
          clear hfirst
          go_wp2_with fail
          go_at_call 42
          refine (found_z _).mono ?_
          rintro e w2 ⟨rfl, hb1⟩
          have Bw2 : Hid (Below (w1.heap.size + 2) ((w1.alloc (.cells #[.slice (some ⟨g, o1, none⟩) M c1, .int .i64 M] 81)).alloc (.cells #[.string ⟨#[]⟩, .int .i64 0, .int .i64 0, .string ⟨#[]⟩, .string ⟨#[]⟩, .int .i64 0, .int .i64 0, .int .i64 0, .int .i64 0] 71)) w2) := hb1.mono (by simp)
          clear hb1
          have q0 : w2.cell? ⟨w1.heap.size + 1, 0, none⟩ = some (.string ⟨#[]⟩) := (Bw2.out.cell (p := ⟨w1.heap.size + 1, 0, none⟩) (by simp)).trans (by simp [go_sem])
          have f0 : w2.frozen? ⟨w1.heap.size + 1, 0, none⟩ = false := (Bw2.out.frozen (p := ⟨w1.heap.size + 1, 0, none⟩) (by simp)).trans (by simp [go_sem])
          have q1 : w2.cell? ⟨w1.heap.size + 1, 1, none⟩ = some (.int .i64 0) := (Bw2.out.cell (p := ⟨w1.heap.size + 1, 1, none⟩) (by simp)).trans (by simp [go_sem])
          have f1 : w2.frozen? ⟨w1.heap.size + 1, 1, none⟩ = false := (Bw2.out.frozen (p := ⟨w1.heap.size + 1, 1, none⟩) (by simp)).trans (by simp [go_sem])
          have q2 : w2.cell? ⟨w1.heap.size + 1, 2, none⟩ = some (.int .i64 0) := (Bw2.out.cell (p := ⟨w1.heap.size + 1, 2, none⟩) (by simp)).trans (by simp [go_sem])
          have f2 : w2.frozen? ⟨w1.heap.size + 1, 2, none⟩ = false := (Bw2.out.frozen (p := ⟨w1.heap.size + 1, 2, none⟩) (by simp)).trans (by simp [go_sem])
          have q3 : w2.cell? ⟨w1.heap.size + 1, 3, none⟩ = some (.string ⟨#[]⟩) := (Bw2.out.cell (p := ⟨w1.heap.size + 1, 3, none⟩) (by simp)).trans (by simp [go_sem])
          have f3 : w2.frozen? ⟨w1.heap.size + 1, 3, none⟩ = false := (Bw2.out.frozen (p := ⟨w1.heap.size + 1, 3, none⟩) (by simp)).trans (by simp [go_sem])
          have q4 : w2.cell? ⟨w1.heap.size + 1, 4, none⟩ = some (.string ⟨#[]⟩) := (Bw2.out.cell (p := ⟨w1.heap.size + 1, 4, none⟩) (by simp)).trans (by simp [go_sem])
          have f4 : w2.frozen? ⟨w1.heap.size + 1, 4, none⟩ = false := (Bw2.out.frozen (p := ⟨w1.heap.size + 1, 4, none⟩) (by simp)).trans (by simp [go_sem])
          have q5 : w2.cell? ⟨w1.heap.size + 1, 5, none⟩ = some (.int .i64 0) := (Bw2.out.cell (p := ⟨w1.heap.size + 1, 5, none⟩) (by simp)).trans (by simp [go_sem])
          have f5 : w2.frozen? ⟨w1.heap.size + 1, 5, none⟩ = false := (Bw2.out.frozen (p := ⟨w1.heap.size + 1, 5, none⟩) (by simp)).trans (by simp [go_sem])
          have q6 : w2.cell? ⟨w1.heap.size + 1, 6, none⟩ = some (.int .i64 0) := (Bw2.out.cell (p := ⟨w1.heap.size + 1, 6, none⟩) (by simp)).trans (by simp [go_sem])
          have f6 : w2.frozen? ⟨w1.heap.size + 1, 6, none⟩ = false := (Bw2.out.frozen (p := ⟨w1.heap.size + 1, 6, none⟩) (by simp)).trans (by simp [go_sem])
          have q7 : w2.cell? ⟨w1.heap.size + 1, 7, none⟩ = some (.int .i64 0) := (Bw2.out.cell (p := ⟨w1.heap.size + 1, 7, none⟩) (by simp)).trans (by simp [go_sem])
          have f7 : w2.frozen? ⟨w1.heap.size + 1, 7, none⟩ = false := (Bw2.out.frozen (p := ⟨w1.heap.size + 1, 7, none⟩) (by simp)).trans (by simp [go_sem])
          have q8 : w2.cell? ⟨w1.heap.size + 1, 8, none⟩ = some (.int .i64 0) := (Bw2.out.cell (p := ⟨w1.heap.size + 1, 8, none⟩) (by simp)).trans (by simp [go_sem])
          have f8 : w2.frozen? ⟨w1.heap.size + 1, 8, none⟩ = false := (Bw2.out.frozen (p := ⟨w1.heap.size + 1, 8, none⟩) (by simp)).trans (by simp [go_sem])
          have p0 : w2.cell? ⟨w1.heap.size, 0, none⟩ = some (.slice (some ⟨g, o1, none⟩) M c1) := (Bw2.out.cell (p := ⟨w1.heap.size, 0, none⟩) (by simp)).trans (by simp [go_sem])
          have p1 : w2.cell? ⟨w1.heap.size, 1, none⟩ = some (.int .i64 M) := (Bw2.out.cell (p := ⟨w1.heap.size, 1, none⟩) (by simp)).trans (by simp [go_sem])
          go_wp2_with fail
          go_at_call 43
          refine (type_any g o1 M c1 M 200 _ HM2.out (by have := GG.out; have := Bw2.out.size; have := ZZ.out; simp at *; omega) ((Bw2.out.cell (p := ⟨g, o1 + 1, none⟩) (by have := GG.out; have := ZZ.out; simp; omega)).trans ((B13.out.cell (p := ⟨g, o1 + 1, none⟩) GG.out).trans CT.out))).mono ?_
          rintro e w3 ⟨rfl, hb1⟩
          have Bw3 : Hid (Below (w1.heap.size + 2) ((w1.alloc (.cells #[.slice (some ⟨g, o1, none⟩) M c1, .int .i64 M] 81)).alloc (.cells #[.string ⟨#[]⟩, .int .i64 0, .int .i64 0, .string ⟨#[]⟩, .string ⟨#[]⟩, .int .i64 0, .int .i64 0, .int .i64 0, .int .i64 0] 71)) w3) := (Bw2.out.trans (hb1.mono (by have := Bw2.out.size; simp at this; omega)))
          clear hb1
          clear q0 f0 q1 f1 q2 f2 q3 f3 q4 f4 q5 f5 q6 f6 q7 f7 q8 f8 p0 p1
          have q0 : w3.cell? ⟨w1.heap.size + 1, 0, none⟩ = some (.string ⟨#[]⟩) := (Bw3.out.cell (p := ⟨w1.heap.size + 1, 0, none⟩) (by simp)).trans (by simp [go_sem])
          have f0 : w3.frozen? ⟨w1.heap.size + 1, 0, none⟩ = false := (Bw3.out.frozen (p := ⟨w1.heap.size + 1, 0, none⟩) (by simp)).trans (by simp [go_sem])
          have q1 : w3.cell? ⟨w1.heap.size + 1, 1, none⟩ = some (.int .i64 0) := (Bw3.out.cell (p := ⟨w1.heap.size + 1, 1, none⟩) (by simp)).trans (by simp [go_sem])
          have f1 : w3.frozen? ⟨w1.heap.size + 1, 1, none⟩ = false := (Bw3.out.frozen (p := ⟨w1.heap.size + 1, 1, none⟩) (by simp)).trans (by simp [go_sem])
          have q2 : w3.cell? ⟨w1.heap.size + 1, 2, none⟩ = some (.int .i64 0) := (Bw3.out.cell (p := ⟨w1.heap.size + 1, 2, none⟩) (by simp)).trans (by simp [go_sem])
          have f2 : w3.frozen? ⟨w1.heap.size + 1, 2, none⟩ = false := (Bw3.out.frozen (p := ⟨w1.heap.size + 1, 2, none⟩) (by simp)).trans (by simp [go_sem])
          have q3 : w3.cell? ⟨w1.heap.size + 1, 3, none⟩ = some (.string ⟨#[]⟩) := (Bw3.out.cell (p := ⟨w1.heap.size + 1, 3, none⟩) (by simp)).trans (by simp [go_sem])
          have f3 : w3.frozen? ⟨w1.heap.size + 1, 3, none⟩ = false := (Bw3.out.frozen (p := ⟨w1.heap.size + 1, 3, none⟩) (by simp)).trans (by simp [go_sem])
          have q4 : w3.cell? ⟨w1.heap.size + 1, 4, none⟩ = some (.string ⟨#[]⟩) := (Bw3.out.cell (p := ⟨w1.heap.size + 1, 4, none⟩) (by simp)).trans (by simp [go_sem])
          have f4 : w3.frozen? ⟨w1.heap.size + 1, 4, none⟩ = false := (Bw3.out.frozen (p := ⟨w1.heap.size + 1, 4, none⟩) (by simp)).trans (by simp [go_sem])
          have q5 : w3.cell? ⟨w1.heap.size + 1, 5, none⟩ = some (.int .i64 0) := (Bw3.out.cell (p := ⟨w1.heap.size + 1, 5, none⟩) (by simp)).trans (by simp [go_sem])
          have f5 : w3.frozen? ⟨w1.heap.size + 1, 5, none⟩ = false := (Bw3.out.frozen (p := ⟨w1.heap.size + 1, 5, none⟩) (by simp)).trans (by simp [go_sem])
          have q6 : w3.cell? ⟨w1.heap.size + 1, 6, none⟩ = some (.int .i64 0) := (Bw3.out.cell (p := ⟨w1.heap.size + 1, 6, none⟩) (by simp)).trans (by simp [go_sem])
          have f6 : w3.frozen? ⟨w1.heap.size + 1, 6, none⟩ = false := (Bw3.out.frozen (p := ⟨w1.heap.size + 1, 6, none⟩) (by simp)).trans (by simp [go_sem])
          have q7 : w3.cell? ⟨w1.heap.size + 1, 7, none⟩ = some (.int .i64 0) := (Bw3.out.cell (p := ⟨w1.heap.size + 1, 7, none⟩) (by simp)).trans (by simp [go_sem])
          have f7 : w3.frozen? ⟨w1.heap.size + 1, 7, none⟩ = false := (Bw3.out.frozen (p := ⟨w1.heap.size + 1, 7, none⟩) (by simp)).trans (by simp [go_sem])
          have q8 : w3.cell? ⟨w1.heap.size + 1, 8, none⟩ = some (.int .i64 0) := (Bw3.out.cell (p := ⟨w1.heap.size + 1, 8, none⟩) (by simp)).trans (by simp [go_sem])
          have f8 : w3.frozen? ⟨w1.heap.size + 1, 8, none⟩ = false := (Bw3.out.frozen (p := ⟨w1.heap.size + 1, 8, none⟩) (by simp)).trans (by simp [go_sem])
          have p0 : w3.cell? ⟨w1.heap.size, 0, none⟩ = some (.slice (some ⟨g, o1, none⟩) M c1) := (Bw3.out.cell (p := ⟨w1.heap.size, 0, none⟩) (by simp)).trans (by simp [go_sem])
          have p1 : w3.cell? ⟨w1.heap.size, 1, none⟩ = some (.int .i64 M) := (Bw3.out.cell (p := ⟨w1.heap.size, 1, none⟩) (by simp)).trans (by simp [go_sem])
          go_wp2_with fail
          go_at_call 42
          refine (found_z _).mono ?_
          rintro e w5 ⟨rfl, hb1⟩
          have Bw5 : Hid (Below (w1.heap.size + 2) ((w1.alloc (.cells #[.slice (some ⟨g, o1, none⟩) M c1, .int .i64 M] 81)).alloc (.cells #[.string ⟨#[]⟩, .int .i64 0, .int .i64 0, .string ⟨#[]⟩, .string ⟨#[]⟩, .int .i64 0, .int .i64 0, .int .i64 0, .int .i64 0] 71)) w5) := (Bw3.out.trans (hb1.mono (by have := Bw3.out.size; simp at this; omega)))
          clear hb1
          clear q0 f0 q1 f1 q2 f2 q3 f3 q4 f4 q5 f5 q6 f6 q7 f7 q8 f8 p0 p1
          have q0 : w5.cell? ⟨w1.heap.size + 1, 0, none⟩ = some (.string ⟨#[]⟩) := (Bw5.out.cell (p := ⟨w1.heap.size + 1, 0, none⟩) (by simp)).trans (by simp [go_sem])
          have f0 : w5.frozen? ⟨w1.heap.size + 1, 0, none⟩ = false := (Bw5.out.frozen (p := ⟨w1.heap.size + 1, 0, none⟩) (by simp)).trans (by simp [go_sem])
          have q1 : w5.cell? ⟨w1.heap.size + 1, 1, none⟩ = some (.int .i64 0) := (Bw5.out.cell (p := ⟨w1.heap.size + 1, 1, none⟩) (by simp)).trans (by simp [go_sem])
          have f1 : w5.frozen? ⟨w1.heap.size + 1, 1, none⟩ = false := (Bw5.out.frozen (p := ⟨w1.heap.size + 1, 1, none⟩) (by simp)).trans (by simp [go_sem])
          have q2 : w5.cell? ⟨w1.heap.size + 1, 2, none⟩ = some (.int .i64 0) := (Bw5.out.cell (p := ⟨w1.heap.size + 1, 2, none⟩) (by simp)).trans (by simp [go_sem])
          have f2 : w5.frozen? ⟨w1.heap.size + 1, 2, none⟩ = false := (Bw5.out.frozen (p := ⟨w1.heap.size + 1, 2, none⟩) (by simp)).trans (by simp [go_sem])
          have q3 : w5.cell? ⟨w1.heap.size + 1, 3, none⟩ = some (.string ⟨#[]⟩) := (Bw5.out.cell (p := ⟨w1.heap.size + 1, 3, none⟩) (by simp)).trans (by simp [go_sem])
          have f3 : w5.frozen? ⟨w1.heap.size + 1, 3, none⟩ = false := (Bw5.out.frozen (p := ⟨w1.heap.size + 1, 3, none⟩) (by simp)).trans (by simp [go_sem])
          have q4 : w5.cell? ⟨w1.heap.size + 1, 4, none⟩ = some (.string ⟨#[]⟩) := (Bw5.out.cell (p := ⟨w1.heap.size + 1, 4, none⟩) (by simp)).trans (by simp [go_sem])
          have f4 : w5.frozen? ⟨w1.heap.size + 1, 4, none⟩ = false := (Bw5.out.frozen (p := ⟨w1.heap.size + 1, 4, none⟩) (by simp)).trans (by simp [go_sem])
          have q5 : w5.cell? ⟨w1.heap.size + 1, 5, none⟩ = some (.int .i64 0) := (Bw5.out.cell (p := ⟨w1.heap.size + 1, 5, none⟩) (by simp)).trans (by simp [go_sem])
          have f5 : w5.frozen? ⟨w1.heap.size + 1, 5, none⟩ = false := (Bw5.out.frozen (p := ⟨w1.heap.size + 1, 5, none⟩) (by simp)).trans (by simp [go_sem])
          have q6 : w5.cell? ⟨w1.heap.size + 1, 6, none⟩ = some (.int .i64 0) := (Bw5.out.cell (p := ⟨w1.heap.size + 1, 6, none⟩) (by simp)).trans (by simp [go_sem])
          have f6 : w5.frozen? ⟨w1.heap.size + 1, 6, none⟩ = false := (Bw5.out.frozen (p := ⟨w1.heap.size + 1, 6, none⟩) (by simp)).trans (by simp [go_sem])
          have q7 : w5.cell? ⟨w1.heap.size + 1, 7, none⟩ = some (.int .i64 0) := (Bw5.out.cell (p := ⟨w1.heap.size + 1, 7, none⟩) (by simp)).trans (by simp [go_sem])
          have f7 : w5.frozen? ⟨w1.heap.size + 1, 7, none⟩ = false := (Bw5.out.frozen (p := ⟨w1.heap.size + 1, 7, none⟩) (by simp)).trans (by simp [go_sem])
          have q8 : w5.cell? ⟨w1.heap.size + 1, 8, none⟩ = some (.int .i64 0) := (Bw5.out.cell (p := ⟨w1.heap.size + 1, 8, none⟩) (by simp)).trans (by simp [go_sem])
          have f8 : w5.frozen? ⟨w1.heap.size + 1, 8, none⟩ = false := (Bw5.out.frozen (p := ⟨w1.heap.size + 1, 8, none⟩) (by simp)).trans (by simp [go_sem])
          have p0 : w5.cell? ⟨w1.heap.size, 0, none⟩ = some (.slice (some ⟨g, o1, none⟩) M c1) := (Bw5.out.cell (p := ⟨w1.heap.size, 0, none⟩) (by simp)).trans (by simp [go_sem])
          have p1 : w5.cell? ⟨w1.heap.size, 1, none⟩ = some (.int .i64 M) := (Bw5.out.cell (p := ⟨w1.heap.size, 1, none⟩) (by simp)).trans (by simp [go_sem])
          go_wp2_with fail
          go_at_call 44
          refine (HK.out _ (B13.out.trans (Bw5.out.mono (by have := ZZ.out; omega)))).mono ?_
          rintro e w6 ⟨rfl, hb1⟩
          have Bw6 : Hid (Below (w1.heap.size + 2) ((w1.alloc (.cells #[.slice (some ⟨g, o1, none⟩) M c1, .int .i64 M] 81)).alloc (.cells #[.string ⟨#[]⟩, .int .i64 0, .int .i64 0, .string ⟨#[]⟩, .string ⟨#[]⟩, .int .i64 0, .int .i64 0, .int .i64 0, .int .i64 0] 71)) w6) := (Bw5.out.trans (hb1.mono (by have := Bw5.out.size; simp at this; omega)))
          clear hb1
          unfold fz
          clear q0 f0 q1 f1 q2 f2 q3 f3 q4 f4 q5 f5 q6 f6 q7 f7 q8 f8 p0 p1
          have q0 : w6.cell? ⟨w1.heap.size + 1, 0, none⟩ = some (.string ⟨#[]⟩) := (Bw6.out.cell (p := ⟨w1.heap.size + 1, 0, none⟩) (by simp)).trans (by simp [go_sem])
          have f0 : w6.frozen? ⟨w1.heap.size + 1, 0, none⟩ = false := (Bw6.out.frozen (p := ⟨w1.heap.size + 1, 0, none⟩) (by simp)).trans (by simp [go_sem])
          have q1 : w6.cell? ⟨w1.heap.size + 1, 1, none⟩ = some (.int .i64 0) := (Bw6.out.cell (p := ⟨w1.heap.size + 1, 1, none⟩) (by simp)).trans (by simp [go_sem])
          have f1 : w6.frozen? ⟨w1.heap.size + 1, 1, none⟩ = false := (Bw6.out.frozen (p := ⟨w1.heap.size + 1, 1, none⟩) (by simp)).trans (by simp [go_sem])
          have q2 : w6.cell? ⟨w1.heap.size + 1, 2, none⟩ = some (.int .i64 0) := (Bw6.out.cell (p := ⟨w1.heap.size + 1, 2, none⟩) (by simp)).trans (by simp [go_sem])
          have f2 : w6.frozen? ⟨w1.heap.size + 1, 2, none⟩ = false := (Bw6.out.frozen (p := ⟨w1.heap.size + 1, 2, none⟩) (by simp)).trans (by simp [go_sem])
          have q3 : w6.cell? ⟨w1.heap.size + 1, 3, none⟩ = some (.string ⟨#[]⟩) := (Bw6.out.cell (p := ⟨w1.heap.size + 1, 3, none⟩) (by simp)).trans (by simp [go_sem])
          have f3 : w6.frozen? ⟨w1.heap.size + 1, 3, none⟩ = false := (Bw6.out.frozen (p := ⟨w1.heap.size + 1, 3, none⟩) (by simp)).trans (by simp [go_sem])
          have q4 : w6.cell? ⟨w1.heap.size + 1, 4, none⟩ = some (.string ⟨#[]⟩) := (Bw6.out.cell (p := ⟨w1.heap.size + 1, 4, none⟩) (by simp)).trans (by simp [go_sem])
          have f4 : w6.frozen? ⟨w1.heap.size + 1, 4, none⟩ = false := (Bw6.out.frozen (p := ⟨w1.heap.size + 1, 4, none⟩) (by simp)).trans (by simp [go_sem])
          have q5 : w6.cell? ⟨w1.heap.size + 1, 5, none⟩ = some (.int .i64 0) := (Bw6.out.cell (p := ⟨w1.heap.size + 1, 5, none⟩) (by simp)).trans (by simp [go_sem])
          have f5 : w6.frozen? ⟨w1.heap.size + 1, 5, none⟩ = false := (Bw6.out.frozen (p := ⟨w1.heap.size + 1, 5, none⟩) (by simp)).trans (by simp [go_sem])
          have q6 : w6.cell? ⟨w1.heap.size + 1, 6, none⟩ = some (.int .i64 0) := (Bw6.out.cell (p := ⟨w1.heap.size + 1, 6, none⟩) (by simp)).trans (by simp [go_sem])
          have f6 : w6.frozen? ⟨w1.heap.size + 1, 6, none⟩ = false := (Bw6.out.frozen (p := ⟨w1.heap.size + 1, 6, none⟩) (by simp)).trans (by simp [go_sem])
          have q7 : w6.cell? ⟨w1.heap.size + 1, 7, none⟩ = some (.int .i64 0) := (Bw6.out.cell (p := ⟨w1.heap.size + 1, 7, none⟩) (by simp)).trans (by simp [go_sem])
          have f7 : w6.frozen? ⟨w1.heap.size + 1, 7, none⟩ = false := (Bw6.out.frozen (p := ⟨w1.heap.size + 1, 7, none⟩) (by simp)).trans (by simp [go_sem])
          have q8 : w6.cell? ⟨w1.heap.size + 1, 8, none⟩ = some (.int .i64 0) := (Bw6.out.cell (p := ⟨w1.heap.size + 1, 8, none⟩) (by simp)).trans (by simp [go_sem])
          have f8 : w6.frozen? ⟨w1.heap.size + 1, 8, none⟩ = false := (Bw6.out.frozen (p := ⟨w1.heap.size + 1, 8, none⟩) (by simp)).trans (by simp [go_sem])
          have p0 : w6.cell? ⟨w1.heap.size, 0, none⟩ = some (.slice (some ⟨g, o1, none⟩) M c1) := (Bw6.out.cell (p := ⟨w1.heap.size, 0, none⟩) (by simp)).trans (by simp [go_sem])
          have p1 : w6.cell? ⟨w1.heap.size, 1, none⟩ = some (.int .i64 M) := (Bw6.out.cell (p := ⟨w1.heap.size, 1, none⟩) (by simp)).trans (by simp [go_sem])
          go_wp2_with fail
          go_at_call 42
          refine (found_z _).mono ?_
          rintro e w7 ⟨rfl, hb1⟩
          have Bw7 : Hid (Below (w1.heap.size + 2) ((w1.alloc (.cells #[.slice (some ⟨g, o1, none⟩) M c1, .int .i64 M] 81)).alloc (.cells #[.string ⟨#[]⟩, .int .i64 0, .int .i64 0, .string ⟨#[]⟩, .string ⟨#[]⟩, .int .i64 0, .int .i64 0, .int .i64 0, .int .i64 0] 71)) w7) := (Bw6.out.trans (hb1.mono (by have := Bw6.out.size; simp at this; omega)))
          clear hb1
          clear q0 f0 q1 f1 q2 f2 q3 f3 q4 f4 q5 f5 q6 f6 q7 f7 q8 f8 p0 p1
          have q0 : w7.cell? ⟨w1.heap.size + 1, 0, none⟩ = some (.string ⟨#[]⟩) := (Bw7.out.cell (p := ⟨w1.heap.size + 1, 0, none⟩) (by simp)).trans (by simp [go_sem])
          have f0 : w7.frozen? ⟨w1.heap.size + 1, 0, none⟩ = false := (Bw7.out.frozen (p := ⟨w1.heap.size + 1, 0, none⟩) (by simp)).trans (by simp [go_sem])
          have q1 : w7.cell? ⟨w1.heap.size + 1, 1, none⟩ = some (.int .i64 0) := (Bw7.out.cell (p := ⟨w1.heap.size + 1, 1, none⟩) (by simp)).trans (by simp [go_sem])
          have f1 : w7.frozen? ⟨w1.heap.size + 1, 1, none⟩ = false := (Bw7.out.frozen (p := ⟨w1.heap.size + 1, 1, none⟩) (by simp)).trans (by simp [go_sem])
          have q2 : w7.cell? ⟨w1.heap.size + 1, 2, none⟩ = some (.int .i64 0) := (Bw7.out.cell (p := ⟨w1.heap.size + 1, 2, none⟩) (by simp)).trans (by simp [go_sem])
          have f2 : w7.frozen? ⟨w1.heap.size + 1, 2, none⟩ = false := (Bw7.out.frozen (p := ⟨w1.heap.size + 1, 2, none⟩) (by simp)).trans (by simp [go_sem])
          have q3 : w7.cell? ⟨w1.heap.size + 1, 3, none⟩ = some (.string ⟨#[]⟩) := (Bw7.out.cell (p := ⟨w1.heap.size + 1, 3, none⟩) (by simp)).trans (by simp [go_sem])
          have f3 : w7.frozen? ⟨w1.heap.size + 1, 3, none⟩ = false := (Bw7.out.frozen (p := ⟨w1.heap.size + 1, 3, none⟩) (by simp)).trans (by simp [go_sem])
          have q4 : w7.cell? ⟨w1.heap.size + 1, 4, none⟩ = some (.string ⟨#[]⟩) := (Bw7.out.cell (p := ⟨w1.heap.size + 1, 4, none⟩) (by simp)).trans (by simp [go_sem])
          have f4 : w7.frozen? ⟨w1.heap.size + 1, 4, none⟩ = false := (Bw7.out.frozen (p := ⟨w1.heap.size + 1, 4, none⟩) (by simp)).trans (by simp [go_sem])
          have q5 : w7.cell? ⟨w1.heap.size + 1, 5, none⟩ = some (.int .i64 0) := (Bw7.out.cell (p := ⟨w1.heap.size + 1, 5, none⟩) (by simp)).trans (by simp [go_sem])
          have f5 : w7.frozen? ⟨w1.heap.size + 1, 5, none⟩ = false := (Bw7.out.frozen (p := ⟨w1.heap.size + 1, 5, none⟩) (by simp)).trans (by simp [go_sem])
          have q6 : w7.cell? ⟨w1.heap.size + 1, 6, none⟩ = some (.int .i64 0) := (Bw7.out.cell (p := ⟨w1.heap.size + 1, 6, none⟩) (by simp)).trans (by simp [go_sem])
          have f6 : w7.frozen? ⟨w1.heap.size + 1, 6, none⟩ = false := (Bw7.out.frozen (p := ⟨w1.heap.size + 1, 6, none⟩) (by simp)).trans (by simp [go_sem])
          have q7 : w7.cell? ⟨w1.heap.size + 1, 7, none⟩ = some (.int .i64 0) := (Bw7.out.cell (p := ⟨w1.heap.size + 1, 7, none⟩) (by simp)).trans (by simp [go_sem])
          have f7 : w7.frozen? ⟨w1.heap.size + 1, 7, none⟩ = false := (Bw7.out.frozen (p := ⟨w1.heap.size + 1, 7, none⟩) (by simp)).trans (by simp [go_sem])
          have q8 : w7.cell? ⟨w1.heap.size + 1, 8, none⟩ = some (.int .i64 0) := (Bw7.out.cell (p := ⟨w1.heap.size + 1, 8, none⟩) (by simp)).trans (by simp [go_sem])
          have f8 : w7.frozen? ⟨w1.heap.size + 1, 8, none⟩ = false := (Bw7.out.frozen (p := ⟨w1.heap.size + 1, 8, none⟩) (by simp)).trans (by simp [go_sem])
          have p0 : w7.cell? ⟨w1.heap.size, 0, none⟩ = some (.slice (some ⟨g, o1, none⟩) M c1) := (Bw7.out.cell (p := ⟨w1.heap.size, 0, none⟩) (by simp)).trans (by simp [go_sem])
          have p1 : w7.cell? ⟨w1.heap.size, 1, none⟩ = some (.int .i64 M) := (Bw7.out.cell (p := ⟨w1.heap.size, 1, none⟩) (by simp)).trans (by simp [go_sem])
          go_wp2_with fail
          all_goals (go_roundg rest'.length)
          all_goals first
            | exact (by have := EK.out; omega)
            | (refine ⟨_, rfl, HN.out.out _ _ (fun hh => ?_), hB.out.trans ((B13.out.mono HZ.out).trans (Bw7.out.mono (by have := ZZ.out; have := HZ.out; omega)))⟩
               first
               | exact ⟨rfl, rfl⟩
               | (exfalso; have := HR0.out hh; omega))

        · subst hT
          clear hfirst
          go_wp2_with fail
          go_at_call 42
          refine (found_z _).mono ?_
          rintro e w2 ⟨rfl, hb1⟩
          have Bw2 : Hid (Below (w1.heap.size + 2) ((w1.alloc (.cells #[.slice (some ⟨g, o1, none⟩) M c1, .int .i64 M] 81)).alloc (.cells #[.string ⟨#[]⟩, .int .i64 0, .int .i64 0, .string ⟨#[]⟩, .string ⟨#[]⟩, .int .i64 0, .int .i64 0, .int .i64 0, .int .i64 0] 71)) w2) := hb1.mono (by simp)
          clear hb1
          have q0 : w2.cell? ⟨w1.heap.size + 1, 0, none⟩ = some (.string ⟨#[]⟩) := (Bw2.out.cell (p := ⟨w1.heap.size + 1, 0, none⟩) (by simp)).trans (by simp [go_sem])
          have f0 : w2.frozen? ⟨w1.heap.size + 1, 0, none⟩ = false := (Bw2.out.frozen (p := ⟨w1.heap.size + 1, 0, none⟩) (by simp)).trans (by simp [go_sem])
          have q1 : w2.cell? ⟨w1.heap.size + 1, 1, none⟩ = some (.int .i64 0) := (Bw2.out.cell (p := ⟨w1.heap.size + 1, 1, none⟩) (by simp)).trans (by simp [go_sem])
          have f1 : w2.frozen? ⟨w1.heap.size + 1, 1, none⟩ = false := (Bw2.out.frozen (p := ⟨w1.heap.size + 1, 1, none⟩) (by simp)).trans (by simp [go_sem])
          have q2 : w2.cell? ⟨w1.heap.size + 1, 2, none⟩ = some (.int .i64 0) := (Bw2.out.cell (p := ⟨w1.heap.size + 1, 2, none⟩) (by simp)).trans (by simp [go_sem])
          have f2 : w2.frozen? ⟨w1.heap.size + 1, 2, none⟩ = false := (Bw2.out.frozen (p := ⟨w1.heap.size + 1, 2, none⟩) (by simp)).trans (by simp [go_sem])
          have q3 : w2.cell? ⟨w1.heap.size + 1, 3, none⟩ = some (.string ⟨#[]⟩) := (Bw2.out.cell (p := ⟨w1.heap.size + 1, 3, none⟩) (by simp)).trans (by simp [go_sem])
          have f3 : w2.frozen? ⟨w1.heap.size + 1, 3, none⟩ = false := (Bw2.out.frozen (p := ⟨w1.heap.size + 1, 3, none⟩) (by simp)).trans (by simp [go_sem])
          have q4 : w2.cell? ⟨w1.heap.size + 1, 4, none⟩ = some (.string ⟨#[]⟩) := (Bw2.out.cell (p := ⟨w1.heap.size + 1, 4, none⟩) (by simp)).trans (by simp [go_sem])
          have f4 : w2.frozen? ⟨w1.heap.size + 1, 4, none⟩ = false := (Bw2.out.frozen (p := ⟨w1.heap.size + 1, 4, none⟩) (by simp)).trans (by simp [go_sem])
          have q5 : w2.cell? ⟨w1.heap.size + 1, 5, none⟩ = some (.int .i64 0) := (Bw2.out.cell (p := ⟨w1.heap.size + 1, 5, none⟩) (by simp)).trans (by simp [go_sem])
          have f5 : w2.frozen? ⟨w1.heap.size + 1, 5, none⟩ = false := (Bw2.out.frozen (p := ⟨w1.heap.size + 1, 5, none⟩) (by simp)).trans (by simp [go_sem])
          have q6 : w2.cell? ⟨w1.heap.size + 1, 6, none⟩ = some (.int .i64 0) := (Bw2.out.cell (p := ⟨w1.heap.size + 1, 6, none⟩) (by simp)).trans (by simp [go_sem])
          have f6 : w2.frozen? ⟨w1.heap.size + 1, 6, none⟩ = false := (Bw2.out.frozen (p := ⟨w1.heap.size + 1, 6, none⟩) (by simp)).trans (by simp [go_sem])
          have q7 : w2.cell? ⟨w1.heap.size + 1, 7, none⟩ = some (.int .i64 0) := (Bw2.out.cell (p := ⟨w1.heap.size + 1, 7, none⟩) (by simp)).trans (by simp [go_sem])
          have f7 : w2.frozen? ⟨w1.heap.size + 1, 7, none⟩ = false := (Bw2.out.frozen (p := ⟨w1.heap.size + 1, 7, none⟩) (by simp)).trans (by simp [go_sem])
          have q8 : w2.cell? ⟨w1.heap.size + 1, 8, none⟩ = some (.int .i64 0) := (Bw2.out.cell (p := ⟨w1.heap.size + 1, 8, none⟩) (by simp)).trans (by simp [go_sem])
          have f8 : w2.frozen? ⟨w1.heap.size + 1, 8, none⟩ = false := (Bw2.out.frozen (p := ⟨w1.heap.size + 1, 8, none⟩) (by simp)).trans (by simp [go_sem])
          have p0 : w2.cell? ⟨w1.heap.size, 0, none⟩ = some (.slice (some ⟨g, o1, none⟩) M c1) := (Bw2.out.cell (p := ⟨w1.heap.size, 0, none⟩) (by simp)).trans (by simp [go_sem])
          have p1 : w2.cell? ⟨w1.heap.size, 1, none⟩ = some (.int .i64 M) := (Bw2.out.cell (p := ⟨w1.heap.size, 1, none⟩) (by simp)).trans (by simp [go_sem])
          go_wp2_with fail
          go_at_call 43
          refine (type_any g o1 M c1 M 201 _ HM2.out (by have := GG.out; have := Bw2.out.size; have := ZZ.out; simp at *; omega) ((Bw2.out.cell (p := ⟨g, o1 + 1, none⟩) (by have := GG.out; have := ZZ.out; simp; omega)).trans ((B13.out.cell (p := ⟨g, o1 + 1, none⟩) GG.out).trans CT.out))).mono ?_
          rintro e w3 ⟨rfl, hb1⟩
          have Bw3 : Hid (Below (w1.heap.size + 2) ((w1.alloc (.cells #[.slice (some ⟨g, o1, none⟩) M c1, .int .i64 M] 81)).alloc (.cells #[.string ⟨#[]⟩, .int .i64 0, .int .i64 0, .string ⟨#[]⟩, .string ⟨#[]⟩, .int .i64 0, .int .i64 0, .int .i64 0, .int .i64 0] 71)) w3) := (Bw2.out.trans (hb1.mono (by have := Bw2.out.size; simp at this; omega)))
          clear hb1
          clear q0 f0 q1 f1 q2 f2 q3 f3 q4 f4 q5 f5 q6 f6 q7 f7 q8 f8 p0 p1
          have q0 : w3.cell? ⟨w1.heap.size + 1, 0, none⟩ = some (.string ⟨#[]⟩) := (Bw3.out.cell (p := ⟨w1.heap.size + 1, 0, none⟩) (by simp)).trans (by simp [go_sem])
          have f0 : w3.frozen? ⟨w1.heap.size + 1, 0, none⟩ = false := (Bw3.out.frozen (p := ⟨w1.heap.size + 1, 0, none⟩) (by simp)).trans (by simp [go_sem])
          have q1 : w3.cell? ⟨w1.heap.size + 1, 1, none⟩ = some (.int .i64 0) := (Bw3.out.cell (p := ⟨w1.heap.size + 1, 1, none⟩) (by simp)).trans (by simp [go_sem])
          have f1 : w3.frozen? ⟨w1.heap.size + 1, 1, none⟩ = false := (Bw3.out.frozen (p := ⟨w1.heap.size + 1, 1, none⟩) (by simp)).trans (by simp [go_sem])
          have q2 : w3.cell? ⟨w1.heap.size + 1, 2, none⟩ = some (.int .i64 0) := (Bw3.out.cell (p := ⟨w1.heap.size + 1, 2, none⟩) (by simp)).trans (by simp [go_sem])
          have f2 : w3.frozen? ⟨w1.heap.size + 1, 2, none⟩ = false := (Bw3.out.frozen (p := ⟨w1.heap.size + 1, 2, none⟩) (by simp)).trans (by simp [go_sem])
          have q3 : w3.cell? ⟨w1.heap.size + 1, 3, none⟩ = some (.string ⟨#[]⟩) := (Bw3.out.cell (p := ⟨w1.heap.size + 1, 3, none⟩) (by simp)).trans (by simp [go_sem])
          have f3 : w3.frozen? ⟨w1.heap.size + 1, 3, none⟩ = false := (Bw3.out.frozen (p := ⟨w1.heap.size + 1, 3, none⟩) (by simp)).trans (by simp [go_sem])
          have q4 : w3.cell? ⟨w1.heap.size + 1, 4, none⟩ = some (.string ⟨#[]⟩) := (Bw3.out.cell (p := ⟨w1.heap.size + 1, 4, none⟩) (by simp)).trans (by simp [go_sem])
          have f4 : w3.frozen? ⟨w1.heap.size + 1, 4, none⟩ = false := (Bw3.out.frozen (p := ⟨w1.heap.size + 1, 4, none⟩) (by simp)).trans (by simp [go_sem])
          have q5 : w3.cell? ⟨w1.heap.size + 1, 5, none⟩ = some (.int .i64 0) := (Bw3.out.cell (p := ⟨w1.heap.size + 1, 5, none⟩) (by simp)).trans (by simp [go_sem])
          have f5 : w3.frozen? ⟨w1.heap.size + 1, 5, none⟩ = false := (Bw3.out.frozen (p := ⟨w1.heap.size + 1, 5, none⟩) (by simp)).trans (by simp [go_sem])
          have q6 : w3.cell? ⟨w1.heap.size + 1, 6, none⟩ = some (.int .i64 0) := (Bw3.out.cell (p := ⟨w1.heap.size + 1, 6, none⟩) (by simp)).trans (by simp [go_sem])
          have f6 : w3.frozen? ⟨w1.heap.size + 1, 6, none⟩ = false := (Bw3.out.frozen (p := ⟨w1.heap.size + 1, 6, none⟩) (by simp)).trans (by simp [go_sem])
          have q7 : w3.cell? ⟨w1.heap.size + 1, 7, none⟩ = some (.int .i64 0) := (Bw3.out.cell (p := ⟨w1.heap.size + 1, 7, none⟩) (by simp)).trans (by simp [go_sem])
          have f7 : w3.frozen? ⟨w1.heap.size + 1, 7, none⟩ = false := (Bw3.out.frozen (p := ⟨w1.heap.size + 1, 7, none⟩) (by simp)).trans (by simp [go_sem])
          have q8 : w3.cell? ⟨w1.heap.size + 1, 8, none⟩ = some (.int .i64 0) := (Bw3.out.cell (p := ⟨w1.heap.size + 1, 8, none⟩) (by simp)).trans (by simp [go_sem])
          have f8 : w3.frozen? ⟨w1.heap.size + 1, 8, none⟩ = false := (Bw3.out.frozen (p := ⟨w1.heap.size + 1, 8, none⟩) (by simp)).trans (by simp [go_sem])
          have p0 : w3.cell? ⟨w1.heap.size, 0, none⟩ = some (.slice (some ⟨g, o1, none⟩) M c1) := (Bw3.out.cell (p := ⟨w1.heap.size, 0, none⟩) (by simp)).trans (by simp [go_sem])
          have p1 : w3.cell? ⟨w1.heap.size, 1, none⟩ = some (.int .i64 M) := (Bw3.out.cell (p := ⟨w1.heap.size, 1, none⟩) (by simp)).trans (by simp [go_sem])
          go_wp2_with fail
          go_at_call 43
          refine (type_any g o1 M c1 M 201 _ HM2.out (by have := GG.out; have := Bw3.out.size; have := ZZ.out; simp at *; omega) ((Bw3.out.cell (p := ⟨g, o1 + 1, none⟩) (by have := GG.out; have := ZZ.out; simp; omega)).trans ((B13.out.cell (p := ⟨g, o1 + 1, none⟩) GG.out).trans CT.out))).mono ?_
          rintro e w4 ⟨rfl, hb1⟩
          have Bw4 : Hid (Below (w1.heap.size + 2) ((w1.alloc (.cells #[.slice (some ⟨g, o1, none⟩) M c1, .int .i64 M] 81)).alloc (.cells #[.string ⟨#[]⟩, .int .i64 0, .int .i64 0, .string ⟨#[]⟩, .string ⟨#[]⟩, .int .i64 0, .int .i64 0, .int .i64 0, .int .i64 0] 71)) w4) := (Bw3.out.trans (hb1.mono (by have := Bw3.out.size; simp at this; omega)))
          clear hb1
          clear q0 f0 q1 f1 q2 f2 q3 f3 q4 f4 q5 f5 q6 f6 q7 f7 q8 f8 p0 p1
          have q0 : w4.cell? ⟨w1.heap.size + 1, 0, none⟩ = some (.string ⟨#[]⟩) := (Bw4.out.cell (p := ⟨w1.heap.size + 1, 0, none⟩) (by simp)).trans (by simp [go_sem])
          have f0 : w4.frozen? ⟨w1.heap.size + 1, 0, none⟩ = false := (Bw4.out.frozen (p := ⟨w1.heap.size + 1, 0, none⟩) (by simp)).trans (by simp [go_sem])
          have q1 : w4.cell? ⟨w1.heap.size + 1, 1, none⟩ = some (.int .i64 0) := (Bw4.out.cell (p := ⟨w1.heap.size + 1, 1, none⟩) (by simp)).trans (by simp [go_sem])
          have f1 : w4.frozen? ⟨w1.heap.size + 1, 1, none⟩ = false := (Bw4.out.frozen (p := ⟨w1.heap.size + 1, 1, none⟩) (by simp)).trans (by simp [go_sem])
          have q2 : w4.cell? ⟨w1.heap.size + 1, 2, none⟩ = some (.int .i64 0) := (Bw4.out.cell (p := ⟨w1.heap.size + 1, 2, none⟩) (by simp)).trans (by simp [go_sem])
          have f2 : w4.frozen? ⟨w1.heap.size + 1, 2, none⟩ = false := (Bw4.out.frozen (p := ⟨w1.heap.size + 1, 2, none⟩) (by simp)).trans (by simp [go_sem])
          have q3 : w4.cell? ⟨w1.heap.size + 1, 3, none⟩ = some (.string ⟨#[]⟩) := (Bw4.out.cell (p := ⟨w1.heap.size + 1, 3, none⟩) (by simp)).trans (by simp [go_sem])
          have f3 : w4.frozen? ⟨w1.heap.size + 1, 3, none⟩ = false := (Bw4.out.frozen (p := ⟨w1.heap.size + 1, 3, none⟩) (by simp)).trans (by simp [go_sem])
          have q4 : w4.cell? ⟨w1.heap.size + 1, 4, none⟩ = some (.string ⟨#[]⟩) := (Bw4.out.cell (p := ⟨w1.heap.size + 1, 4, none⟩) (by simp)).trans (by simp [go_sem])
          have f4 : w4.frozen? ⟨w1.heap.size + 1, 4, none⟩ = false := (Bw4.out.frozen (p := ⟨w1.heap.size + 1, 4, none⟩) (by simp)).trans (by simp [go_sem])
          have q5 : w4.cell? ⟨w1.heap.size + 1, 5, none⟩ = some (.int .i64 0) := (Bw4.out.cell (p := ⟨w1.heap.size + 1, 5, none⟩) (by simp)).trans (by simp [go_sem])
          have f5 : w4.frozen? ⟨w1.heap.size + 1, 5, none⟩ = false := (Bw4.out.frozen (p := ⟨w1.heap.size + 1, 5, none⟩) (by simp)).trans (by simp [go_sem])
          have q6 : w4.cell? ⟨w1.heap.size + 1, 6, none⟩ = some (.int .i64 0) := (Bw4.out.cell (p := ⟨w1.heap.size + 1, 6, none⟩) (by simp)).trans (by simp [go_sem])
          have f6 : w4.frozen? ⟨w1.heap.size + 1, 6, none⟩ = false := (Bw4.out.frozen (p := ⟨w1.heap.size + 1, 6, none⟩) (by simp)).trans (by simp [go_sem])
          have q7 : w4.cell? ⟨w1.heap.size + 1, 7, none⟩ = some (.int .i64 0) := (Bw4.out.cell (p := ⟨w1.heap.size + 1, 7, none⟩) (by simp)).trans (by simp [go_sem])
          have f7 : w4.frozen? ⟨w1.heap.size + 1, 7, none⟩ = false := (Bw4.out.frozen (p := ⟨w1.heap.size + 1, 7, none⟩) (by simp)).trans (by simp [go_sem])
          have q8 : w4.cell? ⟨w1.heap.size + 1, 8, none⟩ = some (.int .i64 0) := (Bw4.out.cell (p := ⟨w1.heap.size + 1, 8, none⟩) (by simp)).trans (by simp [go_sem])
          have f8 : w4.frozen? ⟨w1.heap.size + 1, 8, none⟩ = false := (Bw4.out.frozen (p := ⟨w1.heap.size + 1, 8, none⟩) (by simp)).trans (by simp [go_sem])
          have p0 : w4.cell? ⟨w1.heap.size, 0, none⟩ = some (.slice (some ⟨g, o1, none⟩) M c1) := (Bw4.out.cell (p := ⟨w1.heap.size, 0, none⟩) (by simp)).trans (by simp [go_sem])
          have p1 : w4.cell? ⟨w1.heap.size, 1, none⟩ = some (.int .i64 M) := (Bw4.out.cell (p := ⟨w1.heap.size, 1, none⟩) (by simp)).trans (by simp [go_sem])
          go_wp2_with fail
          go_at_call 42
          refine (found_z _).mono ?_
          rintro e w5 ⟨rfl, hb1⟩
          have Bw5 : Hid (Below (w1.heap.size + 2) ((w1.alloc (.cells #[.slice (some ⟨g, o1, none⟩) M c1, .int .i64 M] 81)).alloc (.cells #[.string ⟨#[]⟩, .int .i64 0, .int .i64 0, .string ⟨#[]⟩, .string ⟨#[]⟩, .int .i64 0, .int .i64 0, .int .i64 0, .int .i64 0] 71)) w5) := (Bw4.out.trans (hb1.mono (by have := Bw4.out.size; simp at this; omega)))
          clear hb1
          clear q0 f0 q1 f1 q2 f2 q3 f3 q4 f4 q5 f5 q6 f6 q7 f7 q8 f8 p0 p1
          have q0 : w5.cell? ⟨w1.heap.size + 1, 0, none⟩ = some (.string ⟨#[]⟩) := (Bw5.out.cell (p := ⟨w1.heap.size + 1, 0, none⟩) (by simp)).trans (by simp [go_sem])
          have f0 : w5.frozen? ⟨w1.heap.size + 1, 0, none⟩ = false := (Bw5.out.frozen (p := ⟨w1.heap.size + 1, 0, none⟩) (by simp)).trans (by simp [go_sem])
          have q1 : w5.cell? ⟨w1.heap.size + 1, 1, none⟩ = some (.int .i64 0) := (Bw5.out.cell (p := ⟨w1.heap.size + 1, 1, none⟩) (by simp)).trans (by simp [go_sem])
          have f1 : w5.frozen? ⟨w1.heap.size + 1, 1, none⟩ = false := (Bw5.out.frozen (p := ⟨w1.heap.size + 1, 1, none⟩) (by simp)).trans (by simp [go_sem])
          have q2 : w5.cell? ⟨w1.heap.size + 1, 2, none⟩ = some (.int .i64 0) := (Bw5.out.cell (p := ⟨w1.heap.size + 1, 2, none⟩) (by simp)).trans (by simp [go_sem])
          have f2 : w5.frozen? ⟨w1.heap.size + 1, 2, none⟩ = false := (Bw5.out.frozen (p := ⟨w1.heap.size + 1, 2, none⟩) (by simp)).trans (by simp [go_sem])
          have q3 : w5.cell? ⟨w1.heap.size + 1, 3, none⟩ = some (.string ⟨#[]⟩) := (Bw5.out.cell (p := ⟨w1.heap.size + 1, 3, none⟩) (by simp)).trans (by simp [go_sem])
          have f3 : w5.frozen? ⟨w1.heap.size + 1, 3, none⟩ = false := (Bw5.out.frozen (p := ⟨w1.heap.size + 1, 3, none⟩) (by simp)).trans (by simp [go_sem])
          have q4 : w5.cell? ⟨w1.heap.size + 1, 4, none⟩ = some (.string ⟨#[]⟩) := (Bw5.out.cell (p := ⟨w1.heap.size + 1, 4, none⟩) (by simp)).trans (by simp [go_sem])
          have f4 : w5.frozen? ⟨w1.heap.size + 1, 4, none⟩ = false := (Bw5.out.frozen (p := ⟨w1.heap.size + 1, 4, none⟩) (by simp)).trans (by simp [go_sem])
          have q5 : w5.cell? ⟨w1.heap.size + 1, 5, none⟩ = some (.int .i64 0) := (Bw5.out.cell (p := ⟨w1.heap.size + 1, 5, none⟩) (by simp)).trans (by simp [go_sem])
          have f5 : w5.frozen? ⟨w1.heap.size + 1, 5, none⟩ = false := (Bw5.out.frozen (p := ⟨w1.heap.size + 1, 5, none⟩) (by simp)).trans (by simp [go_sem])
          have q6 : w5.cell? ⟨w1.heap.size + 1, 6, none⟩ = some (.int .i64 0) := (Bw5.out.cell (p := ⟨w1.heap.size + 1, 6, none⟩) (by simp)).trans (by simp [go_sem])
          have f6 : w5.frozen? ⟨w1.heap.size + 1, 6, none⟩ = false := (Bw5.out.frozen (p := ⟨w1.heap.size + 1, 6, none⟩) (by simp)).trans (by simp [go_sem])
          have q7 : w5.cell? ⟨w1.heap.size + 1, 7, none⟩ = some (.int .i64 0) := (Bw5.out.cell (p := ⟨w1.heap.size + 1, 7, none⟩) (by simp)).trans (by simp [go_sem])
          have f7 : w5.frozen? ⟨w1.heap.size + 1, 7, none⟩ = false := (Bw5.out.frozen (p := ⟨w1.heap.size + 1, 7, none⟩) (by simp)).trans (by simp [go_sem])
          have q8 : w5.cell? ⟨w1.heap.size + 1, 8, none⟩ = some (.int .i64 0) := (Bw5.out.cell (p := ⟨w1.heap.size + 1, 8, none⟩) (by simp)).trans (by simp [go_sem])
          have f8 : w5.frozen? ⟨w1.heap.size + 1, 8, none⟩ = false := (Bw5.out.frozen (p := ⟨w1.heap.size + 1, 8, none⟩) (by simp)).trans (by simp [go_sem])
          have p0 : w5.cell? ⟨w1.heap.size, 0, none⟩ = some (.slice (some ⟨g, o1, none⟩) M c1) := (Bw5.out.cell (p := ⟨w1.heap.size, 0, none⟩) (by simp)).trans (by simp [go_sem])
          have p1 : w5.cell? ⟨w1.heap.size, 1, none⟩ = some (.int .i64 M) := (Bw5.out.cell (p := ⟨w1.heap.size, 1, none⟩) (by simp)).trans (by simp [go_sem])
          go_wp2_with fail
          go_at_call 44
          refine (HK.out _ (B13.out.trans (Bw5.out.mono (by have := ZZ.out; omega)))).mono ?_
          rintro e w6 ⟨rfl, hb1⟩
          have Bw6 : Hid (Below (w1.heap.size + 2) ((w1.alloc (.cells #[.slice (some ⟨g, o1, none⟩) M c1, .int .i64 M] 81)).alloc (.cells #[.string ⟨#[]⟩, .int .i64 0, .int .i64 0, .string ⟨#[]⟩, .string ⟨#[]⟩, .int .i64 0, .int .i64 0, .int .i64 0, .int .i64 0] 71)) w6) := (Bw5.out.trans (hb1.mono (by have := Bw5.out.size; simp at this; omega)))
          clear hb1
          unfold fz
          clear q0 f0 q1 f1 q2 f2 q3 f3 q4 f4 q5 f5 q6 f6 q7 f7 q8 f8 p0 p1
          have q0 : w6.cell? ⟨w1.heap.size + 1, 0, none⟩ = some (.string ⟨#[]⟩) := (Bw6.out.cell (p := ⟨w1.heap.size + 1, 0, none⟩) (by simp)).trans (by simp [go_sem])
          have f0 : w6.frozen? ⟨w1.heap.size + 1, 0, none⟩ = false := (Bw6.out.frozen (p := ⟨w1.heap.size + 1, 0, none⟩) (by simp)).trans (by simp [go_sem])
          have q1 : w6.cell? ⟨w1.heap.size + 1, 1, none⟩ = some (.int .i64 0) := (Bw6.out.cell (p := ⟨w1.heap.size + 1, 1, none⟩) (by simp)).trans (by simp [go_sem])
          have f1 : w6.frozen? ⟨w1.heap.size + 1, 1, none⟩ = false := (Bw6.out.frozen (p := ⟨w1.heap.size + 1, 1, none⟩) (by simp)).trans (by simp [go_sem])
          have q2 : w6.cell? ⟨w1.heap.size + 1, 2, none⟩ = some (.int .i64 0) := (Bw6.out.cell (p := ⟨w1.heap.size + 1, 2, none⟩) (by simp)).trans (by simp [go_sem])
          have f2 : w6.frozen? ⟨w1.heap.size + 1, 2, none⟩ = false := (Bw6.out.frozen (p := ⟨w1.heap.size + 1, 2, none⟩) (by simp)).trans (by simp [go_sem])
          have q3 : w6.cell? ⟨w1.heap.size + 1, 3, none⟩ = some (.string ⟨#[]⟩) := (Bw6.out.cell (p := ⟨w1.heap.size + 1, 3, none⟩) (by simp)).trans (by simp [go_sem])
          have f3 : w6.frozen? ⟨w1.heap.size + 1, 3, none⟩ = false := (Bw6.out.frozen (p := ⟨w1.heap.size + 1, 3, none⟩) (by simp)).trans (by simp [go_sem])
          have q4 : w6.cell? ⟨w1.heap.size + 1, 4, none⟩ = some (.string ⟨#[]⟩) := (Bw6.out.cell (p := ⟨w1.heap.size + 1, 4, none⟩) (by simp)).trans (by simp [go_sem])
          have f4 : w6.frozen? ⟨w1.heap.size + 1, 4, none⟩ = false := (Bw6.out.frozen (p := ⟨w1.heap.size + 1, 4, none⟩) (by simp)).trans (by simp [go_sem])
          have q5 : w6.cell? ⟨w1.heap.size + 1, 5, none⟩ = some (.int .i64 0) := (Bw6.out.cell (p := ⟨w1.heap.size + 1, 5, none⟩) (by simp)).trans (by simp [go_sem])
          have f5 : w6.frozen? ⟨w1.heap.size + 1, 5, none⟩ = false := (Bw6.out.frozen (p := ⟨w1.heap.size + 1, 5, none⟩) (by simp)).trans (by simp [go_sem])
          have q6 : w6.cell? ⟨w1.heap.size + 1, 6, none⟩ = some (.int .i64 0) := (Bw6.out.cell (p := ⟨w1.heap.size + 1, 6, none⟩) (by simp)).trans (by simp [go_sem])
          have f6 : w6.frozen? ⟨w1.heap.size + 1, 6, none⟩ = false := (Bw6.out.frozen (p := ⟨w1.heap.size + 1, 6, none⟩) (by simp)).trans (by simp [go_sem])
          have q7 : w6.cell? ⟨w1.heap.size + 1, 7, none⟩ = some (.int .i64 0) := (Bw6.out.cell (p := ⟨w1.heap.size + 1, 7, none⟩) (by simp)).trans (by simp [go_sem])
          have f7 : w6.frozen? ⟨w1.heap.size + 1, 7, none⟩ = false := (Bw6.out.frozen (p := ⟨w1.heap.size + 1, 7, none⟩) (by simp)).trans (by simp [go_sem])
          have q8 : w6.cell? ⟨w1.heap.size + 1, 8, none⟩ = some (.int .i64 0) := (Bw6.out.cell (p := ⟨w1.heap.size + 1, 8, none⟩) (by simp)).trans (by simp [go_sem])
          have f8 : w6.frozen? ⟨w1.heap.size + 1, 8, none⟩ = false := (Bw6.out.frozen (p := ⟨w1.heap.size + 1, 8, none⟩) (by simp)).trans (by simp [go_sem])
          have p0 : w6.cell? ⟨w1.heap.size, 0, none⟩ = some (.slice (some ⟨g, o1, none⟩) M c1) := (Bw6.out.cell (p := ⟨w1.heap.size, 0, none⟩) (by simp)).trans (by simp [go_sem])
          have p1 : w6.cell? ⟨w1.heap.size, 1, none⟩ = some (.int .i64 M) := (Bw6.out.cell (p := ⟨w1.heap.size, 1, none⟩) (by simp)).trans (by simp [go_sem])
          go_wp2_with fail
          go_at_call 42
          refine (found_z _).mono ?_
          rintro e w7 ⟨rfl, hb1⟩
          have Bw7 : Hid (Below (w1.heap.size + 2) ((w1.alloc (.cells #[.slice (some ⟨g, o1, none⟩) M c1, .int .i64 M] 81)).alloc (.cells #[.string ⟨#[]⟩, .int .i64 0, .int .i64 0, .string ⟨#[]⟩, .string ⟨#[]⟩, .int .i64 0, .int .i64 0, .int .i64 0, .int .i64 0] 71)) w7) := (Bw6.out.trans (hb1.mono (by have := Bw6.out.size; simp at this; omega)))
          clear hb1
          clear q0 f0 q1 f1 q2 f2 q3 f3 q4 f4 q5 f5 q6 f6 q7 f7 q8 f8 p0 p1
          have q0 : w7.cell? ⟨w1.heap.size + 1, 0, none⟩ = some (.string ⟨#[]⟩) := (Bw7.out.cell (p := ⟨w1.heap.size + 1, 0, none⟩) (by simp)).trans (by simp [go_sem])
          have f0 : w7.frozen? ⟨w1.heap.size + 1, 0, none⟩ = false := (Bw7.out.frozen (p := ⟨w1.heap.size + 1, 0, none⟩) (by simp)).trans (by simp [go_sem])
          have q1 : w7.cell? ⟨w1.heap.size + 1, 1, none⟩ = some (.int .i64 0) := (Bw7.out.cell (p := ⟨w1.heap.size + 1, 1, none⟩) (by simp)).trans (by simp [go_sem])
          have f1 : w7.frozen? ⟨w1.heap.size + 1, 1, none⟩ = false := (Bw7.out.frozen (p := ⟨w1.heap.size + 1, 1, none⟩) (by simp)).trans (by simp [go_sem])
          have q2 : w7.cell? ⟨w1.heap.size + 1, 2, none⟩ = some (.int .i64 0) := (Bw7.out.cell (p := ⟨w1.heap.size + 1, 2, none⟩) (by simp)).trans (by simp [go_sem])
          have f2 : w7.frozen? ⟨w1.heap.size + 1, 2, none⟩ = false := (Bw7.out.frozen (p := ⟨w1.heap.size + 1, 2, none⟩) (by simp)).trans (by simp [go_sem])
          have q3 : w7.cell? ⟨w1.heap.size + 1, 3, none⟩ = some (.string ⟨#[]⟩) := (Bw7.out.cell (p := ⟨w1.heap.size + 1, 3, none⟩) (by simp)).trans (by simp [go_sem])
          have f3 : w7.frozen? ⟨w1.heap.size + 1, 3, none⟩ = false := (Bw7.out.frozen (p := ⟨w1.heap.size + 1, 3, none⟩) (by simp)).trans (by simp [go_sem])
          have q4 : w7.cell? ⟨w1.heap.size + 1, 4, none⟩ = some (.string ⟨#[]⟩) := (Bw7.out.cell (p := ⟨w1.heap.size + 1, 4, none⟩) (by simp)).trans (by simp [go_sem])
          have f4 : w7.frozen? ⟨w1.heap.size + 1, 4, none⟩ = false := (Bw7.out.frozen (p := ⟨w1.heap.size + 1, 4, none⟩) (by simp)).trans (by simp [go_sem])
          have q5 : w7.cell? ⟨w1.heap.size + 1, 5, none⟩ = some (.int .i64 0) := (Bw7.out.cell (p := ⟨w1.heap.size + 1, 5, none⟩) (by simp)).trans (by simp [go_sem])
          have f5 : w7.frozen? ⟨w1.heap.size + 1, 5, none⟩ = false := (Bw7.out.frozen (p := ⟨w1.heap.size + 1, 5, none⟩) (by simp)).trans (by simp [go_sem])
          have q6 : w7.cell? ⟨w1.heap.size + 1, 6, none⟩ = some (.int .i64 0) := (Bw7.out.cell (p := ⟨w1.heap.size + 1, 6, none⟩) (by simp)).trans (by simp [go_sem])
          have f6 : w7.frozen? ⟨w1.heap.size + 1, 6, none⟩ = false := (Bw7.out.frozen (p := ⟨w1.heap.size + 1, 6, none⟩) (by simp)).trans (by simp [go_sem])
          have q7 : w7.cell? ⟨w1.heap.size + 1, 7, none⟩ = some (.int .i64 0) := (Bw7.out.cell (p := ⟨w1.heap.size + 1, 7, none⟩) (by simp)).trans (by simp [go_sem])
          have f7 : w7.frozen? ⟨w1.heap.size + 1, 7, none⟩ = false := (Bw7.out.frozen (p := ⟨w1.heap.size + 1, 7, none⟩) (by simp)).trans (by simp [go_sem])
          have q8 : w7.cell? ⟨w1.heap.size + 1, 8, none⟩ = some (.int .i64 0) := (Bw7.out.cell (p := ⟨w1.heap.size + 1, 8, none⟩) (by simp)).trans (by simp [go_sem])
          have f8 : w7.frozen? ⟨w1.heap.size + 1, 8, none⟩ = false := (Bw7.out.frozen (p := ⟨w1.heap.size + 1, 8, none⟩) (by simp)).trans (by simp [go_sem])
          have p0 : w7.cell? ⟨w1.heap.size, 0, none⟩ = some (.slice (some ⟨g, o1, none⟩) M c1) := (Bw7.out.cell (p := ⟨w1.heap.size, 0, none⟩) (by simp)).trans (by simp [go_sem])
          have p1 : w7.cell? ⟨w1.heap.size, 1, none⟩ = some (.int .i64 M) := (Bw7.out.cell (p := ⟨w1.heap.size, 1, none⟩) (by simp)).trans (by simp [go_sem])
          go_wp2_with fail
          all_goals (go_roundg rest'.length)
          all_goals first
            | exact (by have := EK.out; omega)
            | (refine ⟨_, rfl, HN.out.out _ _ (fun hh => ?_), hB.out.trans ((B13.out.mono HZ.out).trans (Bw7.out.mono (by have := ZZ.out; have := HZ.out; omega)))⟩
               first
               | exact ⟨rfl, rfl⟩
               | (exfalso; have := HR0.out hh; omega))

      · clear hfirst
        go_wp2_with fail
        go_at_call 42
        refine (found_z _).mono ?_
        rintro e w2 ⟨rfl, hb1⟩
        have Bw2 : Hid (Below (w1.heap.size + 2) ((w1.alloc (.cells #[.slice (some ⟨g, o1, none⟩) M c1, .int .i64 M] 81)).alloc (.cells #[.string ⟨#[]⟩, .int .i64 0, .int .i64 0, .string ⟨#[]⟩, .string ⟨#[]⟩, .int .i64 0, .int .i64 0, .int .i64 0, .int .i64 0] 71)) w2) := hb1.mono (by simp)
        clear hb1
        have q0 : w2.cell? ⟨w1.heap.size + 1, 0, none⟩ = some (.string ⟨#[]⟩) := (Bw2.out.cell (p := ⟨w1.heap.size + 1, 0, none⟩) (by simp)).trans (by simp [go_sem])
        have f0 : w2.frozen? ⟨w1.heap.size + 1, 0, none⟩ = false := (Bw2.out.frozen (p := ⟨w1.heap.size + 1, 0, none⟩) (by simp)).trans (by simp [go_sem])
        have q1 : w2.cell? ⟨w1.heap.size + 1, 1, none⟩ = some (.int .i64 0) := (Bw2.out.cell (p := ⟨w1.heap.size + 1, 1, none⟩) (by simp)).trans (by simp [go_sem])
        have f1 : w2.frozen? ⟨w1.heap.size + 1, 1, none⟩ = false := (Bw2.out.frozen (p := ⟨w1.heap.size + 1, 1, none⟩) (by simp)).trans (by simp [go_sem])
        have q2 : w2.cell? ⟨w1.heap.size + 1, 2, none⟩ = some (.int .i64 0) := (Bw2.out.cell (p := ⟨w1.heap.size + 1, 2, none⟩) (by simp)).trans (by simp [go_sem])
        have f2 : w2.frozen? ⟨w1.heap.size + 1, 2, none⟩ = false := (Bw2.out.frozen (p := ⟨w1.heap.size + 1, 2, none⟩) (by simp)).trans (by simp [go_sem])
        have q3 : w2.cell? ⟨w1.heap.size + 1, 3, none⟩ = some (.string ⟨#[]⟩) := (Bw2.out.cell (p := ⟨w1.heap.size + 1, 3, none⟩) (by simp)).trans (by simp [go_sem])
        have f3 : w2.frozen? ⟨w1.heap.size + 1, 3, none⟩ = false := (Bw2.out.frozen (p := ⟨w1.heap.size + 1, 3, none⟩) (by simp)).trans (by simp [go_sem])
        have q4 : w2.cell? ⟨w1.heap.size + 1, 4, none⟩ = some (.string ⟨#[]⟩) := (Bw2.out.cell (p := ⟨w1.heap.size + 1, 4, none⟩) (by simp)).trans (by simp [go_sem])
        have f4 : w2.frozen? ⟨w1.heap.size + 1, 4, none⟩ = false := (Bw2.out.frozen (p := ⟨w1.heap.size + 1, 4, none⟩) (by simp)).trans (by simp [go_sem])
        have q5 : w2.cell? ⟨w1.heap.size + 1, 5, none⟩ = some (.int .i64 0) := (Bw2.out.cell (p := ⟨w1.heap.size + 1, 5, none⟩) (by simp)).trans (by simp [go_sem])
        have f5 : w2.frozen? ⟨w1.heap.size + 1, 5, none⟩ = false := (Bw2.out.frozen (p := ⟨w1.heap.size + 1, 5, none⟩) (by simp)).trans (by simp [go_sem])
        have q6 : w2.cell? ⟨w1.heap.size + 1, 6, none⟩ = some (.int .i64 0) := (Bw2.out.cell (p := ⟨w1.heap.size + 1, 6, none⟩) (by simp)).trans (by simp [go_sem])
        have f6 : w2.frozen? ⟨w1.heap.size + 1, 6, none⟩ = false := (Bw2.out.frozen (p := ⟨w1.heap.size + 1, 6, none⟩) (by simp)).trans (by simp [go_sem])
        have q7 : w2.cell? ⟨w1.heap.size + 1, 7, none⟩ = some (.int .i64 0) := (Bw2.out.cell (p := ⟨w1.heap.size + 1, 7, none⟩) (by simp)).trans (by simp [go_sem])
        have f7 : w2.frozen? ⟨w1.heap.size + 1, 7, none⟩ = false := (Bw2.out.frozen (p := ⟨w1.heap.size + 1, 7, none⟩) (by simp)).trans (by simp [go_sem])
        have q8 : w2.cell? ⟨w1.heap.size + 1, 8, none⟩ = some (.int .i64 0) := (Bw2.out.cell (p := ⟨w1.heap.size + 1, 8, none⟩) (by simp)).trans (by simp [go_sem])
        have f8 : w2.frozen? ⟨w1.heap.size + 1, 8, none⟩ = false := (Bw2.out.frozen (p := ⟨w1.heap.size + 1, 8, none⟩) (by simp)).trans (by simp [go_sem])
        have p0 : w2.cell? ⟨w1.heap.size, 0, none⟩ = some (.slice (some ⟨g, o1, none⟩) M c1) := (Bw2.out.cell (p := ⟨w1.heap.size, 0, none⟩) (by simp)).trans (by simp [go_sem])
        have p1 : w2.cell? ⟨w1.heap.size, 1, none⟩ = some (.int .i64 M) := (Bw2.out.cell (p := ⟨w1.heap.size, 1, none⟩) (by simp)).trans (by simp [go_sem])
        go_wp2_with fail
        go_at_call 42
        refine (found_z _).mono ?_
        rintro e w5 ⟨rfl, hb1⟩
        have Bw5 : Hid (Below (w1.heap.size + 2) ((w1.alloc (.cells #[.slice (some ⟨g, o1, none⟩) M c1, .int .i64 M] 81)).alloc (.cells #[.string ⟨#[]⟩, .int .i64 0, .int .i64 0, .string ⟨#[]⟩, .string ⟨#[]⟩, .int .i64 0, .int .i64 0, .int .i64 0, .int .i64 0] 71)) w5) := (Bw2.out.trans (hb1.mono (by have := Bw2.out.size; simp at this; omega)))
        clear hb1
        clear q0 f0 q1 f1 q2 f2 q3 f3 q4 f4 q5 f5 q6 f6 q7 f7 q8 f8 p0 p1
        have q0 : w5.cell? ⟨w1.heap.size + 1, 0, none⟩ = some (.string ⟨#[]⟩) := (Bw5.out.cell (p := ⟨w1.heap.size + 1, 0, none⟩) (by simp)).trans (by simp [go_sem])
        have f0 : w5.frozen? ⟨w1.heap.size + 1, 0, none⟩ = false := (Bw5.out.frozen (p := ⟨w1.heap.size + 1, 0, none⟩) (by simp)).trans (by simp [go_sem])
        have q1 : w5.cell? ⟨w1.heap.size + 1, 1, none⟩ = some (.int .i64 0) := (Bw5.out.cell (p := ⟨w1.heap.size + 1, 1, none⟩) (by simp)).trans (by simp [go_sem])
        have f1 : w5.frozen? ⟨w1.heap.size + 1, 1, none⟩ = false := (Bw5.out.frozen (p := ⟨w1.heap.size + 1, 1, none⟩) (by simp)).trans (by simp [go_sem])
        have q2 : w5.cell? ⟨w1.heap.size + 1, 2, none⟩ = some (.int .i64 0) := (Bw5.out.cell (p := ⟨w1.heap.size + 1, 2, none⟩) (by simp)).trans (by simp [go_sem])
        have f2 : w5.frozen? ⟨w1.heap.size + 1, 2, none⟩ = false := (Bw5.out.frozen (p := ⟨w1.heap.size + 1, 2, none⟩) (by simp)).trans (by simp [go_sem])
        have q3 : w5.cell? ⟨w1.heap.size + 1, 3, none⟩ = some (.string ⟨#[]⟩) := (Bw5.out.cell (p := ⟨w1.heap.size + 1, 3, none⟩) (by simp)).trans (by simp [go_sem])
        have f3 : w5.frozen? ⟨w1.heap.size + 1, 3, none⟩ = false := (Bw5.out.frozen (p := ⟨w1.heap.size + 1, 3, none⟩) (by simp)).trans (by simp [go_sem])
        have q4 : w5.cell? ⟨w1.heap.size + 1, 4, none⟩ = some (.string ⟨#[]⟩) := (Bw5.out.cell (p := ⟨w1.heap.size + 1, 4, none⟩) (by simp)).trans (by simp [go_sem])
        have f4 : w5.frozen? ⟨w1.heap.size + 1, 4, none⟩ = false := (Bw5.out.frozen (p := ⟨w1.heap.size + 1, 4, none⟩) (by simp)).trans (by simp [go_sem])
        have q5 : w5.cell? ⟨w1.heap.size + 1, 5, none⟩ = some (.int .i64 0) := (Bw5.out.cell (p := ⟨w1.heap.size + 1, 5, none⟩) (by simp)).trans (by simp [go_sem])
        have f5 : w5.frozen? ⟨w1.heap.size + 1, 5, none⟩ = false := (Bw5.out.frozen (p := ⟨w1.heap.size + 1, 5, none⟩) (by simp)).trans (by simp [go_sem])
        have q6 : w5.cell? ⟨w1.heap.size + 1, 6, none⟩ = some (.int .i64 0) := (Bw5.out.cell (p := ⟨w1.heap.size + 1, 6, none⟩) (by simp)).trans (by simp [go_sem])
        have f6 : w5.frozen? ⟨w1.heap.size + 1, 6, none⟩ = false := (Bw5.out.frozen (p := ⟨w1.heap.size + 1, 6, none⟩) (by simp)).trans (by simp [go_sem])
        have q7 : w5.cell? ⟨w1.heap.size + 1, 7, none⟩ = some (.int .i64 0) := (Bw5.out.cell (p := ⟨w1.heap.size + 1, 7, none⟩) (by simp)).trans (by simp [go_sem])
        have f7 : w5.frozen? ⟨w1.heap.size + 1, 7, none⟩ = false := (Bw5.out.frozen (p := ⟨w1.heap.size + 1, 7, none⟩) (by simp)).trans (by simp [go_sem])
        have q8 : w5.cell? ⟨w1.heap.size + 1, 8, none⟩ = some (.int .i64 0) := (Bw5.out.cell (p := ⟨w1.heap.size + 1, 8, none⟩) (by simp)).trans (by simp [go_sem])
        have f8 : w5.frozen? ⟨w1.heap.size + 1, 8, none⟩ = false := (Bw5.out.frozen (p := ⟨w1.heap.size + 1, 8, none⟩) (by simp)).trans (by simp [go_sem])
        have p0 : w5.cell? ⟨w1.heap.size, 0, none⟩ = some (.slice (some ⟨g, o1, none⟩) M c1) := (Bw5.out.cell (p := ⟨w1.heap.size, 0, none⟩) (by simp)).trans (by simp [go_sem])
        have p1 : w5.cell? ⟨w1.heap.size, 1, none⟩ = some (.int .i64 M) := (Bw5.out.cell (p := ⟨w1.heap.size, 1, none⟩) (by simp)).trans (by simp [go_sem])
        go_wp2_with fail
        go_at_call 44
        refine (HK.out _ (B13.out.trans (Bw5.out.mono (by have := ZZ.out; omega)))).mono ?_
        rintro e w6 ⟨rfl, hb1⟩
        have Bw6 : Hid (Below (w1.heap.size + 2) ((w1.alloc (.cells #[.slice (some ⟨g, o1, none⟩) M c1, .int .i64 M] 81)).alloc (.cells #[.string ⟨#[]⟩, .int .i64 0, .int .i64 0, .string ⟨#[]⟩, .string ⟨#[]⟩, .int .i64 0, .int .i64 0, .int .i64 0, .int .i64 0] 71)) w6) := (Bw5.out.trans (hb1.mono (by have := Bw5.out.size; simp at this; omega)))
        clear hb1
        unfold fz
        clear q0 f0 q1 f1 q2 f2 q3 f3 q4 f4 q5 f5 q6 f6 q7 f7 q8 f8 p0 p1
        have q0 : w6.cell? ⟨w1.heap.size + 1, 0, none⟩ = some (.string ⟨#[]⟩) := (Bw6.out.cell (p := ⟨w1.heap.size + 1, 0, none⟩) (by simp)).trans (by simp [go_sem])
        have f0 : w6.frozen? ⟨w1.heap.size + 1, 0, none⟩ = false := (Bw6.out.frozen (p := ⟨w1.heap.size + 1, 0, none⟩) (by simp)).trans (by simp [go_sem])
        have q1 : w6.cell? ⟨w1.heap.size + 1, 1, none⟩ = some (.int .i64 0) := (Bw6.out.cell (p := ⟨w1.heap.size + 1, 1, none⟩) (by simp)).trans (by simp [go_sem])
        have f1 : w6.frozen? ⟨w1.heap.size + 1, 1, none⟩ = false := (Bw6.out.frozen (p := ⟨w1.heap.size + 1, 1, none⟩) (by simp)).trans (by simp [go_sem])
        have q2 : w6.cell? ⟨w1.heap.size + 1, 2, none⟩ = some (.int .i64 0) := (Bw6.out.cell (p := ⟨w1.heap.size + 1, 2, none⟩) (by simp)).trans (by simp [go_sem])
        have f2 : w6.frozen? ⟨w1.heap.size + 1, 2, none⟩ = false := (Bw6.out.frozen (p := ⟨w1.heap.size + 1, 2, none⟩) (by simp)).trans (by simp [go_sem])
        have q3 : w6.cell? ⟨w1.heap.size + 1, 3, none⟩ = some (.string ⟨#[]⟩) := (Bw6.out.cell (p := ⟨w1.heap.size + 1, 3, none⟩) (by simp)).trans (by simp [go_sem])
        have f3 : w6.frozen? ⟨w1.heap.size + 1, 3, none⟩ = false := (Bw6.out.frozen (p := ⟨w1.heap.size + 1, 3, none⟩) (by simp)).trans (by simp [go_sem])
        have q4 : w6.cell? ⟨w1.heap.size + 1, 4, none⟩ = some (.string ⟨#[]⟩) := (Bw6.out.cell (p := ⟨w1.heap.size + 1, 4, none⟩) (by simp)).trans (by simp [go_sem])
        have f4 : w6.frozen? ⟨w1.heap.size + 1, 4, none⟩ = false := (Bw6.out.frozen (p := ⟨w1.heap.size + 1, 4, none⟩) (by simp)).trans (by simp [go_sem])
        have q5 : w6.cell? ⟨w1.heap.size + 1, 5, none⟩ = some (.int .i64 0) := (Bw6.out.cell (p := ⟨w1.heap.size + 1, 5, none⟩) (by simp)).trans (by simp [go_sem])
        have f5 : w6.frozen? ⟨w1.heap.size + 1, 5, none⟩ = false := (Bw6.out.frozen (p := ⟨w1.heap.size + 1, 5, none⟩) (by simp)).trans (by simp [go_sem])
        have q6 : w6.cell? ⟨w1.heap.size + 1, 6, none⟩ = some (.int .i64 0) := (Bw6.out.cell (p := ⟨w1.heap.size + 1, 6, none⟩) (by simp)).trans (by simp [go_sem])
        have f6 : w6.frozen? ⟨w1.heap.size + 1, 6, none⟩ = false := (Bw6.out.frozen (p := ⟨w1.heap.size + 1, 6, none⟩) (by simp)).trans (by simp [go_sem])
        have q7 : w6.cell? ⟨w1.heap.size + 1, 7, none⟩ = some (.int .i64 0) := (Bw6.out.cell (p := ⟨w1.heap.size + 1, 7, none⟩) (by simp)).trans (by simp [go_sem])
        have f7 : w6.frozen? ⟨w1.heap.size + 1, 7, none⟩ = false := (Bw6.out.frozen (p := ⟨w1.heap.size + 1, 7, none⟩) (by simp)).trans (by simp [go_sem])
        have q8 : w6.cell? ⟨w1.heap.size + 1, 8, none⟩ = some (.int .i64 0) := (Bw6.out.cell (p := ⟨w1.heap.size + 1, 8, none⟩) (by simp)).trans (by simp [go_sem])
        have f8 : w6.frozen? ⟨w1.heap.size + 1, 8, none⟩ = false := (Bw6.out.frozen (p := ⟨w1.heap.size + 1, 8, none⟩) (by simp)).trans (by simp [go_sem])
        have p0 : w6.cell? ⟨w1.heap.size, 0, none⟩ = some (.slice (some ⟨g, o1, none⟩) M c1) := (Bw6.out.cell (p := ⟨w1.heap.size, 0, none⟩) (by simp)).trans (by simp [go_sem])
        have p1 : w6.cell? ⟨w1.heap.size, 1, none⟩ = some (.int .i64 M) := (Bw6.out.cell (p := ⟨w1.heap.size, 1, none⟩) (by simp)).trans (by simp [go_sem])
        go_wp2_with fail
        go_at_call 42
        refine (found_z _).mono ?_
        rintro e w7 ⟨rfl, hb1⟩
        have Bw7 : Hid (Below (w1.heap.size + 2) ((w1.alloc (.cells #[.slice (some ⟨g, o1, none⟩) M c1, .int .i64 M] 81)).alloc (.cells #[.string ⟨#[]⟩, .int .i64 0, .int .i64 0, .string ⟨#[]⟩, .string ⟨#[]⟩, .int .i64 0, .int .i64 0, .int .i64 0, .int .i64 0] 71)) w7) := (Bw6.out.trans (hb1.mono (by have := Bw6.out.size; simp at this; omega)))
        clear hb1
        clear q0 f0 q1 f1 q2 f2 q3 f3 q4 f4 q5 f5 q6 f6 q7 f7 q8 f8 p0 p1
        have q0 : w7.cell? ⟨w1.heap.size + 1, 0, none⟩ = some (.string ⟨#[]⟩) := (Bw7.out.cell (p := ⟨w1.heap.size + 1, 0, none⟩) (by simp)).trans (by simp [go_sem])
        have f0 : w7.frozen? ⟨w1.heap.size + 1, 0, none⟩ = false := (Bw7.out.frozen (p := ⟨w1.heap.size + 1, 0, none⟩) (by simp)).trans (by simp [go_sem])
        have q1 : w7.cell? ⟨w1.heap.size + 1, 1, none⟩ = some (.int .i64 0) := (Bw7.out.cell (p := ⟨w1.heap.size + 1, 1, none⟩) (by simp)).trans (by simp [go_sem])
        have f1 : w7.frozen? ⟨w1.heap.size + 1, 1, none⟩ = false := (Bw7.out.frozen (p := ⟨w1.heap.size + 1, 1, none⟩) (by simp)).trans (by simp [go_sem])
        have q2 : w7.cell? ⟨w1.heap.size + 1, 2, none⟩ = some (.int .i64 0) := (Bw7.out.cell (p := ⟨w1.heap.size + 1, 2, none⟩) (by simp)).trans (by simp [go_sem])
        have f2 : w7.frozen? ⟨w1.heap.size + 1, 2, none⟩ = false := (Bw7.out.frozen (p := ⟨w1.heap.size + 1, 2, none⟩) (by simp)).trans (by simp [go_sem])
        have q3 : w7.cell? ⟨w1.heap.size + 1, 3, none⟩ = some (.string ⟨#[]⟩) := (Bw7.out.cell (p := ⟨w1.heap.size + 1, 3, none⟩) (by simp)).trans (by simp [go_sem])
        have f3 : w7.frozen? ⟨w1.heap.size + 1, 3, none⟩ = false := (Bw7.out.frozen (p := ⟨w1.heap.size + 1, 3, none⟩) (by simp)).trans (by simp [go_sem])
        have q4 : w7.cell? ⟨w1.heap.size + 1, 4, none⟩ = some (.string ⟨#[]⟩) := (Bw7.out.cell (p := ⟨w1.heap.size + 1, 4, none⟩) (by simp)).trans (by simp [go_sem])
        have f4 : w7.frozen? ⟨w1.heap.size + 1, 4, none⟩ = false := (Bw7.out.frozen (p := ⟨w1.heap.size + 1, 4, none⟩) (by simp)).trans (by simp [go_sem])
        have q5 : w7.cell? ⟨w1.heap.size + 1, 5, none⟩ = some (.int .i64 0) := (Bw7.out.cell (p := ⟨w1.heap.size + 1, 5, none⟩) (by simp)).trans (by simp [go_sem])
        have f5 : w7.frozen? ⟨w1.heap.size + 1, 5, none⟩ = false := (Bw7.out.frozen (p := ⟨w1.heap.size + 1, 5, none⟩) (by simp)).trans (by simp [go_sem])
        have q6 : w7.cell? ⟨w1.heap.size + 1, 6, none⟩ = some (.int .i64 0) := (Bw7.out.cell (p := ⟨w1.heap.size + 1, 6, none⟩) (by simp)).trans (by simp [go_sem])
        have f6 : w7.frozen? ⟨w1.heap.size + 1, 6, none⟩ = false := (Bw7.out.frozen (p := ⟨w1.heap.size + 1, 6, none⟩) (by simp)).trans (by simp [go_sem])
        have q7 : w7.cell? ⟨w1.heap.size + 1, 7, none⟩ = some (.int .i64 0) := (Bw7.out.cell (p := ⟨w1.heap.size + 1, 7, none⟩) (by simp)).trans (by simp [go_sem])
        have f7 : w7.frozen? ⟨w1.heap.size + 1, 7, none⟩ = false := (Bw7.out.frozen (p := ⟨w1.heap.size + 1, 7, none⟩) (by simp)).trans (by simp [go_sem])
        have q8 : w7.cell? ⟨w1.heap.size + 1, 8, none⟩ = some (.int .i64 0) := (Bw7.out.cell (p := ⟨w1.heap.size + 1, 8, none⟩) (by simp)).trans (by simp [go_sem])
        have f8 : w7.frozen? ⟨w1.heap.size + 1, 8, none⟩ = false := (Bw7.out.frozen (p := ⟨w1.heap.size + 1, 8, none⟩) (by simp)).trans (by simp [go_sem])
        have p0 : w7.cell? ⟨w1.heap.size, 0, none⟩ = some (.slice (some ⟨g, o1, none⟩) M c1) := (Bw7.out.cell (p := ⟨w1.heap.size, 0, none⟩) (by simp)).trans (by simp [go_sem])
        have p1 : w7.cell? ⟨w1.heap.size, 1, none⟩ = some (.int .i64 M) := (Bw7.out.cell (p := ⟨w1.heap.size, 1, none⟩) (by simp)).trans (by simp [go_sem])
        go_wp2_with fail
        all_goals (go_roundg rest'.length)
        all_goals first
          | exact (by have := EK.out; omega)
          | (refine ⟨_, rfl, HN.out.out _ _ (fun hh => ?_), hB.out.trans ((B13.out.mono HZ.out).trans (Bw7.out.mono (by have := ZZ.out; have := HZ.out; omega)))⟩
             first
             | exact ⟨rfl, rfl⟩
             | (exfalso; have := HR0.out hh; omega))

end Go.Proofs.YbulkdsruGreatDoor
