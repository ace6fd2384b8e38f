import Derived.Test.YbulkdsruGreatDoorSeq
import Derived.Test.YbulkdsruGreatDoorReco
import Derived.Test.YbulkdsruGreatDoorEach3
namespace Go.Proofs.YbulkdsruGreatDoor
open Go.RowKit Go.Op Go.Shelf
set_option linter.unusedVariables false
set_option linter.unusedSimpArgs false
attribute [local go_sem] Oper.semAt_some

set_option maxHeartbeats 1000000 in
theorem packets_any (g o L cap : Nat) (w : World) :
    Calls Ybaz.prog 19 #[.agg #[.slice (some ⟨g, o, none⟩) L cap]] w fun e w' => e = .returned (.func (.func 45) #[] #[.pointer (some ⟨w.heap.size, 0, none⟩)]) ∧ w' = w.alloc (.cells #[.slice (some ⟨g, o, none⟩) L cap] 35) := by
  go_enter Ybaz.func19, Ybaz.ntmps19
  go_wp2_with fail
  go_ret
  exact ⟨rfl, rfl⟩

/-- How many goodbyes have come. -/
def nbyes (ps : List Pk) (pre : List (Ix ps)) : Nat := pre.countP (fun x => (ps[x.1]'x.2).isBye)

theorem top_at {w : World} {o : Obj} {n : Nat} (h : w.heap.size = n) : (w.alloc o).heap[n]? = some o := by subst h; exact (MapKept.heap_alloc w o).1
theorem push_at {w : World} {o : Obj} {k : Nat} {x : Option Obj} (h : k < w.heap.size) (e : w.heap[k]? = x) : (w.alloc o).heap[k]? = x := (Below.heap_alloc _ _ _ h).trans e
theorem keepsFrom_two {B b m : Nat} {W W' : World} (h : Two b m W W') (hb : b < B) (hm : m < B) : KeepsFrom B W W' :=
  ⟨h.size, fun k o hk ho _ => (h.block k (Array.getElem?_eq_some_iff.1 ho).1 (by omega) (by omega)).trans ho⟩
theorem kpB_two {b : Nat} {W W' : World} (h : Two b b W W') : KpB b W W' :=
  ⟨h.size, fun k o ho hk _ => (h.block k (Array.getElem?_eq_some_iff.1 ho).1 hk hk).trans ho⟩
theorem kpB_two_map {b m n c : Nat} {f : Int → Option Value} {W W' : World} (h : Two b m W W') (hm : mp W m n c f) : KpB b W W' :=
  ⟨h.size, fun k o ho hk hc => (h.block k (Array.getElem?_eq_some_iff.1 ho).1 hk (fun e => by
    subst e
    obtain ⟨D, ⟨es, clock, hb, _⟩, _⟩ := hm
    rw [hb] at ho
    cases ho
    cases hc)).trans ho⟩
theorem kpB_put {b : Nat} {W : World} {l : Nat} {o o' : Obj} (hl : W.heap[l]? = some o) (ho : o.isCells = false) : KpB b W (W.putObj l o') :=
  ⟨by simp, fun k o2 hk hb hc => (World.putObj_heap_other (fun e => by subst e; rw [hl] at hk; cases hk; rw [ho] at hc; cases hc)).trans hk⟩
theorem ownFrom_two {β : Type} (V : World) (b m : Nat) : OwnFrom V.heap.size (fun (_ : β) W => Two b m V W) := by
  intro s A B row hs hg hr
  refine ⟨hg.os.trans hs.os, hg.tape.trans hs.tape, hg.output.trans hs.output, Nat.le_trans hs.size hg.size, fun k hk h1 h2 => ?_⟩
  exact (hg.block k (Nat.lt_of_lt_of_le hk hs.size) (fun e => by have := (hr k e.symm).1; omega)).trans (hs.block k hk h1 h2)
theorem ownFrom_block {β : Type} (B k : Nat) (hk : k < B) (f : β → Obj) : OwnFrom B (fun s W => W.heap[k]? = some (f s)) := by
  intro s A B' row hs hg hr
  exact (hg.block k (Array.getElem?_eq_some_iff.1 hs).1 (fun e => by have := (hr k e.symm).1; omega)).trans hs

theorem row_at {W : World} {g o : Nat} {ps : List Pk} (h : Row W g o (flat ps)) (x : Ix ps) : Row W g (o + offs ps x.1) ((ps[x.1]'x.2).bytes ++ flat (ps.drop (x.1 + 1))) := by
  have h2 := h
  rw [flat_split ps x.1, drop_eq ps x.1 x.2, flat_cons] at h2
  exact h2.right
theorem Row.two {V W : World} {b m g o : Nat} {l : List Int} (h : Row V g o l) (ht : Two b m V W) (hg : g < V.heap.size) (h1 : g ≠ b) (h2 : g ≠ m) : Row W g o l :=
  fun i v hv => (World.cell?_of_block (ht.block g hg h1 h2)).trans (h i v hv)
theorem ps_le_flat : ∀ ps : List Pk, ps.length ≤ (flat ps).length
  | [] => by simp
  | p :: r => by have := ps_le_flat r; rw [flat_cons, List.length_append, p.len]; simp; omega
theorem len_at (ps : List Pk) (x : Ix ps) : offs ps x.1 + (4 + 4 * (ps[x.1]'x.2).k) ≤ (flat ps).length := by
  rw [flat_split ps x.1, drop_eq ps x.1 x.2, flat_cons, List.length_append, List.length_append, Pk.len]
  unfold offs; omega
theorem nbyes_snoc (ps : List Pk) (pre : List (Ix ps)) (x : Ix ps) : nbyes ps (pre ++ [x]) = nbyes ps pre + ((ps[x.1]'x.2).isBye).toNat := by
  unfold nbyes; rw [List.countP_append]; simp [List.countP_cons]
  cases ((ps[x.1]'x.2).isBye) <;> rfl
def psi9_9 (b g o L cap : Nat) : Nat → Value → Prop
  | 35 => fun v => v = .pointer (some ⟨b, 0, none⟩)
  | 36 => fun v => v = .agg #[.slice (some ⟨g, o, none⟩) L cap]
  | 37 => fun v => v = .int .i64 L
  | _ => fun _ => True

def psi9_10 (b nb : Nat) (y : Int) : Nat → Value → Prop
  | 39 => fun v => v = .pointer (some ⟨b, 0, none⟩)
  | 40 => fun v => v = .pointer (some ⟨b, 0, none⟩)
  | 41 => fun v => v = .pointer (some ⟨b, 15, none⟩)
  | 42 => fun v => v = .int .i64 y
  | 43 => fun v => v = .int .i64 nb
  | 44 => fun v => v = .int .i64 (IntKind.i64.wrap (y + nb))
  | 45 => fun v => v = .pointer (some ⟨b, 0, none⟩)
  | 46 => fun v => v = .pointer (some ⟨b, 15, none⟩)
  | _ => fun _ => True

theorem map_all (ps : List Pk) (xs : List (Ix ps)) (h : xs.map Subtype.val = List.range ps.length) : xs.map (fun x => ps[x.1]'x.2) = ps := by
  have h1 : xs.map (fun x => ps[x.1]'x.2) = (xs.map Subtype.val).map (fun i => ps.getD i .sdes) := by
    rw [List.map_map]
    refine List.map_congr_left (fun x _ => ?_)
    simp [List.getD_eq_getElem?_getD, x.2]
  rw [h1, h]
  refine List.ext_getElem (by simp) (fun i h2 h3 => ?_)
  simp [List.getD_eq_getElem?_getD, h3]
theorem nbyes_all (ps : List Pk) (xs : List (Ix ps)) (h : xs.map Subtype.val = List.range ps.length) : nbyes ps xs = ps.countP Pk.isBye := by
  have := congrArg (List.countP Pk.isBye) (map_all ps xs h)
  rw [List.countP_map] at this
  exact this
theorem two_of_own {b k : Nat} {w V W : World} (hb : Below w.heap.size w V) (ht : Two k k V W) (hk : w.heap.size ≤ k) : Two b b w W :=
  ⟨ht.os.trans hb.os, ht.tape.trans hb.tape, ht.output.trans hb.output, Nat.le_trans hb.size ht.size, fun j hj _ _ => (ht.block j (Nat.lt_of_lt_of_le hj hb.size) (by omega) (by omega)).trans (hb.block j hj)⟩
theorem Two.put {b m : Nat} {w W : World} (h : Two b m w W) {D : Nat} {o : Obj} (hD : w.heap.size ≤ D) : Two b m w (W.putObj D o) :=
  ⟨h.os, h.tape, h.output, by simpa using h.size, fun k hk h1 h2 => (World.putObj_heap_other (by omega)).trans (h.block k hk h1 h2)⟩
/-- What a compound leaves of a State that holds its BYE back. -/
def leaveS (S : StV) (ps : List Pk) : StV :=
  if ps.countP Pk.isBye = 0 then S else { S with avg := avgF S.avg (flat ps).length, byes := IntKind.i64.wrap (S.byes + (ps.countP Pk.isBye : Nat)) }
theorem typ_bye (p : Pk) : decide (p.typ = 203) = p.isBye := by cases p <;> rfl

set_option maxRecDepth 100000 in
set_option maxHeartbeats 2000000 in
theorem received_leave (b g o cap : Nat) (ps : List Pk) (S : StV) (now : Tm) (w : World) (hs : Stt w b S) (hlv : S.lv = true) (hr : Row w g o (flat ps)) (hg : g < w.heap.size) (hgb : g ≠ b) (hok : ∀ p ∈ ps, p.ok) (hcap : (flat ps).length ≤ cap) (hL : (flat ps).length ≤ 100000000) (ha : rg S.avg < INF) :
    Calls Ybaz.prog 9 #[.pointer (some ⟨b, 0, none⟩), .agg #[.slice (some ⟨g, o, none⟩) (flat ps).length cap], tv now.n now.s] w fun e w' => e = .returned (.tuple #[]) ∧ Stt w' b (leaveS S ps) ∧ Two b b w w' := by
  refine (callsIn_wide (n := 10)).1 ?_
  refine callsIn_of_wp_marks Ybaz.func9 rfl trivial ?_ rfl
  simp only [Ybaz.ntmps9, List.size_toArray, List.length_cons, List.length_nil, Nat.reduceAdd, Nat.reduceSub, Array.replicate_succ, Array.replicate_zero, List.push_toArray, List.append_toArray, List.nil_append, List.cons_append]
  obtain ⟨L, hLL⟩ : ∃ L, (flat ps).length = L := ⟨_, rfl⟩
  have HLL : Hid _ := hLL
  rw [hLL]
  have HBB : Hid (Below w.heap.size w (((w.alloc (.cells #[.pointer (some ⟨b, 0, none⟩)] 53)).alloc (.cells #[.slice (some ⟨g, o, none⟩) L cap] 35)).alloc (.cells #[.int .u64 now.n, .int .i64 now.s, .pointer none] 48))) := (((Below.refl _ w).alloc (Nat.le_refl _) _).alloc (by simp) _).alloc (by simp; omega) _
  have g2 : b < w.heap.size := hs.lt
  have c14 : (((w.alloc (.cells #[.pointer (some ⟨b, 0, none⟩)] 53)).alloc (.cells #[.slice (some ⟨g, o, none⟩) L cap] 35)).alloc (.cells #[.int .u64 now.n, .int .i64 now.s, .pointer none] 48)).cell? ⟨b, 14, none⟩ = some (.bool true) := by rw [← hlv]; exact (HBB.out.cell (p := ⟨b, 14, none⟩) g2).trans (cell_of hs)
  have HS : Hid (w.heap[b]? = some (.cells S.cells 58)) := hs
  have HR : Hid (Row w g o (flat ps)) := hr
  have HOK : Hid (∀ p ∈ ps, p.ok) := hok
  clear hs hr hok hlv hLL
  unfold tv
  gi_wp2
  refine ⟨trivial, ?_⟩
  gi_at_call 19
  refine (callsIn_wide.2 (packets_any g o L cap _)).mono ?_
  rintro e w1 ⟨rfl, rfl⟩
  gi_wp2
  have hV : ∃ V, (((((w.alloc (.cells #[.pointer (some ⟨b, 0, none⟩)] 53)).alloc (.cells #[.slice (some ⟨g, o, none⟩) L cap] 35)).alloc (.cells #[.int .u64 now.n, .int .i64 now.s, .pointer none] 48)).alloc (.cells #[.int .i64 0] 3)).alloc (.cells #[.slice (some ⟨g, o, none⟩) L cap] 35)) = V := ⟨_, rfl⟩
  obtain ⟨V, hV⟩ := hV
  have HBV : Hid (Below w.heap.size w V) := by rw [← hV]; exact (HBB.out.alloc (by simp; omega) _).alloc (by simp; omega) _
  have HZ : Hid (V.heap.size = w.heap.size + 5) := by rw [← hV]; show _ = _; simp only [World.size_alloc]
  have HB0 : Hid (V.heap[w.heap.size]? = some (.cells #[.pointer (some ⟨b, 0, none⟩)] 53)) := by rw [← hV]; exact push_at (by simp <;> omega) (push_at (by simp <;> omega) (push_at (by simp <;> omega) (push_at (by simp <;> omega) (top_at (by simp)))))
  have HB1 : Hid (V.heap[w.heap.size + 1]? = some (.cells #[.slice (some ⟨g, o, none⟩) L cap] 35)) := by rw [← hV]; exact push_at (by simp <;> omega) (push_at (by simp <;> omega) (push_at (by simp <;> omega) (top_at (by simp))))
  have HB3 : Hid (V.heap[w.heap.size + 1 + 1 + 1]? = some (.cells #[.int .i64 0] 3)) := by rw [← hV]; exact push_at (by simp <;> omega) (top_at (by simp))
  have HB4 : Hid (V.heap[w.heap.size + 1 + 1 + 1 + 1]? = some (.cells #[.slice (some ⟨g, o, none⟩) L cap] 35)) := by rw [← hV]; exact top_at (by simp)
  rw [hV]
  clear hV HBB c14
  obtain ⟨n0, hn0⟩ : ∃ n0, w.heap.size = n0 := ⟨_, rfl⟩
  obtain ⟨n1, hn1⟩ : ∃ n1, n0 + 1 = n1 := ⟨_, rfl⟩
  obtain ⟨n2, hn2⟩ : ∃ n2, n1 + 1 = n2 := ⟨_, rfl⟩
  obtain ⟨n3, hn3⟩ : ∃ n3, n2 + 1 = n3 := ⟨_, rfl⟩
  obtain ⟨n4, hn4⟩ : ∃ n4, n3 + 1 = n4 := ⟨_, rfl⟩
  rw [hn0, hn1, hn2, hn3] at HB3
  rw [hn0, hn1, hn2, hn3, hn4] at HB4
  rw [hn0, hn1] at HB1
  rw [hn0] at HB0
  rw [hn0, hn1, hn2, hn3, hn4]
  have hz := HZ.out
  have HRV : Hid (Row V g o (flat ps)) := HR.out.below HBV.out hg
  refine wpIn_rangeFunc_ownH rfl (by omega) (gf := 45) (lb := #[.pointer (some ⟨n4, 0, none⟩)]) rfl trivial (enters_of Ybaz.func45 (by kernel_rfl) rfl)
    (packets_stops 9 (by omega) n4 g o cap n3 ps HOK.out hcap (by omega) (by omega) V (by rw [HLL.out]; exact cell_of HB4.out) HRV.out (by omega) (by omega) (by omega)) (fun h h' => h.trans h') (fun W l o o' _ hl ho _ => kpB_put hl ho) (Below.refl _ _) (fun _ => rfl)
    (fun pre W => W.heap[n3]? = some (.cells #[.int .i64 (nbyes ps pre : Nat)] 3) ∧ Two n3 n3 V W) (fun _ _ _ => False)
    (OwnFrom.and (ownFrom_block _ n3 (by omega) (fun pre => .cells #[.int .i64 (nbyes ps pre : Nat)] 3)) (ownFrom_two V n3 n3)) (fun _ _ _ _ _ hs _ _ => hs) ⟨HB3.out, Two.refl _ _ _⟩
    (fun x a' W => ∃ Bx, V.heap.size ≤ Bx ∧ W.heap[Bx]? = some (.cells #[.slice (some ⟨g, o + offs ps x.1, none⟩) (4 + 4 * (ps[x.1]'x.2).k) (cap - offs ps x.1), .int .i64 (4 + 4 * (ps[x.1]'x.2).k : Nat)] 81) ∧ a' = { tmps := #[.pointer (some ⟨b, 0, none⟩), .agg #[.slice (some ⟨g, o, none⟩) L cap], .agg #[.int .u64 now.n, .int .i64 now.s, .pointer none], .pointer (some ⟨n0, 0, none⟩), .pointer (some ⟨n1, 0, none⟩), .pointer (some ⟨n2, 0, none⟩), .pointer (some ⟨n3, 0, none⟩), .pointer (some ⟨Bx, 0, none⟩), undef, undef, undef, undef, undef, undef, undef, undef, undef, undef, .pointer (some ⟨b, 0, none⟩), .pointer (some ⟨b, 0, none⟩), .pointer (some ⟨b, 14, none⟩), .bool true, .agg #[.slice (some ⟨g, o, none⟩) L cap], .func (.func 45) #[] #[.pointer (some ⟨n4, 0, none⟩)], pkV g o cap ps x, undef, undef, undef, undef, undef, undef, undef, undef, undef, undef, undef, undef, undef, undef, undef, undef, undef, undef, undef, undef, undef, undef, undef, undef, undef, undef, undef, undef, undef, undef, undef, undef, undef, undef, undef, undef, undef, undef, undef, undef, undef, undef, undef, undef, undef, undef, undef, undef, undef, undef, undef, undef, undef, undef, undef, undef, undef, undef, undef, undef, undef, undef, undef, undef, undef, undef, undef, undef, undef, undef, undef], defers := [] }) ?hAx ?assign ?body ?done ?stop
  case hAx =>
    intro x a' s A B row hs hgr hrr
    obtain ⟨Bx, h1, h2, h3⟩ := hs
    refine ⟨Bx, h1, ?_, h3⟩
    refine (hgr.block Bx (Array.getElem?_eq_some_iff.1 h2).1 (fun e => ?_)).trans h2
    obtain ⟨_, o2, ho2, hc2⟩ := hrr Bx e.symm
    rw [h2] at ho2; cases ho2; cases hc2
  case assign =>
    rintro l pre x W K ⟨hc, htw⟩ hK
    unfold pkV
    gi_wp2
    refine hK _ _ ((KeepsOthers.alloc _ _).from _) (kpB_two ((Two.refl _ _ _).alloc _)) ⟨?_, htw.alloc _⟩ ⟨W.heap.size, htw.size, (MapKept.heap_alloc W _).1, rfl⟩
    exact (Below.heap_alloc _ _ _ (Array.getElem?_eq_some_iff.1 hc).1).trans hc
  case body =>
    rintro l pre x a' W hl ⟨r, hlr⟩ ⟨hc, htw⟩ ⟨Bx, hBx, hbx, rfl⟩ hlt
    have hrx : Row W g (o + offs ps x.1) ((ps[x.1]'x.2).bytes ++ flat (ps.drop (x.1 + 1))) := row_at (HRV.out.two htw (by omega) (by omega) (by omega)) x
    have hct := hrx.c1
    have ESN : Hid (nbyes ps (pre ++ [x]) = nbyes ps pre + ((ps[x.1]'x.2).isBye).toNat) := nbyes_snoc ps pre x
    rw [← typ_bye] at ESN
    obtain ⟨o1, ho1⟩ : ∃ o1, o + offs ps x.1 = o1 := ⟨_, rfl⟩
    obtain ⟨M, hM⟩ : ∃ M, 4 + 4 * (ps[x.1]'x.2).k = M := ⟨_, rfl⟩
    obtain ⟨cc, hcc⟩ : ∃ cc, cap - offs ps x.1 = cc := ⟨_, rfl⟩
    obtain ⟨T, hT⟩ : ∃ T, (ps[x.1]'x.2).typ = T := ⟨_, rfl⟩
    rw [ho1, hM, hcc] at hbx
    rw [ho1, hT] at hct
    rw [hT] at ESN
    have hM4 : 2 ≤ M := by omega
    have hnl : pre.length < ps.length := hlt
    have hnb : nbyes ps pre ≤ pre.length := List.countP_le_length
    obtain ⟨nb, hnbe⟩ : ∃ nb, nbyes ps pre = nb := ⟨_, rfl⟩
    rw [hnbe] at hc ESN hnb
    have hpl : ps.length ≤ (flat ps).length := ps_le_flat ps
    have hgW : g < W.heap.size := by have := htw.size; omega
    have hBy := bye_any g o1 M cc (M : Int) T W hM4 hgW hct
    have p0 : W.cell? ⟨Bx, 0, none⟩ = some (.slice (some ⟨g, o1, none⟩) M cc) := cell_of hbx
    have p1 : W.cell? ⟨Bx, 1, none⟩ = some (.int .i64 M) := cell_of hbx
    have HC : Hid (W.heap[n3]? = some (.cells #[.int .i64 nb] 3)) := hc
    have HTW : Hid (Two n3 n3 V W) := htw
    have E1 : IntKind.i64.wrap ((nb : Int) + 1) = (nb : Int) + 1 := by simp [IntKind.wrap, IntKind.bits, IntKind.signed]; omega
    have hn3W : n3 < W.heap.size := (Array.getElem?_eq_some_iff.1 hc).1
    clear hrx hct ho1 hM hcc hT hlr hc htw hnbe hl hlt hnl hnb hpl hgW
    gi_wp2
    refine ⟨trivial, ?_⟩
    gi_at_call 20
    refine (CallsIn.inRound l (callsIn_wide.2 hBy)).mono ?_
    clear hBy
    rintro e w1 ⟨rfl, hb1⟩
    have B1 : Hid (Below W.heap.size W w1) := hb1
    have hk1 : w1.heap[n3]? = some (.cells #[.int .i64 nb] 3) := (hb1.block n3 hn3W).trans HC.out
    have hn3w : n3 < w1.heap.size := (Array.getElem?_eq_some_iff.1 hk1).1
    have n3n : ¬ n3 = w1.heap.size := by omega
    have q3 : w1.cell? ⟨n3, 0, none⟩ = some (.int .i64 nb) := cell_of hk1
    have f3 : w1.frozen? ⟨n3, 0, none⟩ = false := frozen_of hk1
    have HK1 : Hid _ := hk1
    clear hb1 hk1
    unfold viewV
    by_cases hT : T = 203
    · rw [if_pos hT]
      have ET : Hid (nbyes ps (pre ++ [x]) = nb + 1) := by rw [ESN.out, hT]; rfl
      clear hT
      gi_wp2
      refine ⟨?_, ?_, ?_⟩
      rotate_left 2
      · exact ⟨by rw [ET.out]; exact push_at (by simp; exact hn3w) ((heap_set HK1.out _).trans (by simp)), HTW.out.trans (((Two.below B1.out).setCell _ _).alloc _)⟩
      · exact keepsFrom_two (((Two.below B1.out).setCell _ _).alloc _) (b := n3) (m := n3) (by omega) (by omega)
      · exact kpB_two (((Two.below B1.out).setCell _ _).alloc _)
    · rw [if_neg hT]
      have ET : Hid (nbyes ps (pre ++ [x]) = nb) := by rw [ESN.out, decide_eq_false hT]; rfl
      clear hT
      gi_wp2
      refine ⟨?_, ?_, ?_⟩
      rotate_left 2
      · exact ⟨by rw [ET.out]; exact push_at hn3w HK1.out, HTW.out.trans ((Two.below B1.out).alloc _)⟩
      · exact keepsFrom_two ((Two.below B1.out).alloc _) (b := n3) (m := n3) (by omega) (by omega)
      · exact kpB_two ((Two.below B1.out).alloc _)
  case done =>
    rintro D xs W hD hS ⟨hc, htw⟩ hK
    have hNB := nbyes_all ps xs hS
    rw [hNB] at hc
    obtain ⟨nb, hnb⟩ : ∃ nb, ps.countP Pk.isBye = nb := ⟨_, rfl⟩
    rw [hnb] at hc
    have HNB : Hid (ps.countP Pk.isBye = nb) := hnb
    have K3 : Hid (W.heap[n3]? = some (.cells #[.int .i64 nb] 3)) := hc
    have K0 : Hid (W.heap[n0]? = some (.cells #[.pointer (some ⟨b, 0, none⟩)] 53)) := (htw.block n0 (by omega) (by omega) (by omega)).trans HB0.out
    have K1 : Hid (W.heap[n1]? = some (.cells #[.slice (some ⟨g, o, none⟩) L cap] 35)) := (htw.block n1 (by omega) (by omega) (by omega)).trans HB1.out
    have KS : Hid (W.heap[b]? = some (.cells S.cells 58)) := (htw.block b (by omega) (by omega) (by omega)).trans ((HBV.out.block b g2).trans HS.out)
    have HWT : Hid (Two b b w W) := two_of_own HBV.out htw (by omega)
    have hsz : V.heap.size ≤ W.heap.size := htw.size
    have c3 : W.cell? ⟨n3, 0, none⟩ = some (.int .i64 nb) := cell_of K3.out
    have HKD : Hid (W.heap[D]? = some (.deferred (some []))) := hK
    clear hNB hnb hc htw hS
    by_cases h0 : nb = 0
    · subst h0
      gi_wp2
      refine ⟨by simp, .inl ⟨_, _, rfl, run_takeDeferred hK, ?_⟩⟩
      refine ⟨_, results_none rfl _ _ _, rfl, ?_, ?_⟩
      · have e : leaveS S ps = S := by unfold leaveS; rw [HNB.out]; rfl
        rw [e]
        exact (World.putObj_heap_other (by omega)).trans KS.out
      · exact HWT.out.put (by omega)
    · have hgt : (0 : Int) < nb := by omega
      have hgtn : 0 < nb := by omega
      gi_wp2
      refine wpIn_wide.2 ?_
      refine wp_region_last (fun w' => Below W.heap.size W w') (fun w' => ∃ w0, Below W.heap.size W w0 ∧ w' = w0.drew.setCell ⟨b, 2, none⟩ (.float .f64 (avgF S.avg L))) (psi9_9 b g o L cap) 3 mixed (Below.refl _ _).drew (by kernel_rfl) (by kernel_rfl) (by kernel_rfl) (by kernel_rfl) (by kernel_rfl) ?each ?last ?fin
      case each =>
        simp only [List.dropLast, List.forall_mem_cons]
        refine ⟨?_, ?_, ?_, fun _ h => by cases h⟩
        · intro a w1 hC hs hn
          have h1' : a.tmps.getD 3 undef = .pointer (some ⟨n0, 0, none⟩) := hs 3 (by kernel_rfl)
          have hc0 : w1.cell? ⟨n0, 0, none⟩ = some (.pointer (some ⟨b, 0, none⟩)) := (hC.cell (p := ⟨n0, 0, none⟩) (by simp; omega)).trans (cell_of K0.out)
          have HC : Hid _ := hC
          clear hs hn hC
          unfold Oper.wp
          simp only [execOp, Act.eval, h1']
          go_simp
          exact ⟨_, rfl, rfl, HC.out⟩
        · intro a w1 hC hs hn
          have h1' : a.tmps.getD 4 undef = .pointer (some ⟨n1, 0, none⟩) := hs 4 (by kernel_rfl)
          have hc0 : w1.cell? ⟨n1, 0, none⟩ = some (.slice (some ⟨g, o, none⟩) L cap) := (hC.cell (p := ⟨n1, 0, none⟩) (by simp; omega)).trans (cell_of K1.out)
          have HC : Hid _ := hC
          clear hs hn hC
          unfold Oper.wp
          simp only [execOp, Act.eval, h1']
          go_simp
          exact ⟨_, rfl, rfl, HC.out⟩
        · intro a w1 hC hs hn
          have h1' : a.tmps.getD 36 undef = .agg #[.slice (some ⟨g, o, none⟩) L cap] := hn 36 (by kernel_rfl)
          clear hs hn
          unfold Oper.wp
          simp only [execOp, Act.eval, h1']
          go_simp
          refine (len_any g o L cap w1).mono ?_
          rintro e w2 ⟨rfl, hb⟩
          exact ⟨_, rfl, rfl, hC.trans (hb.mono hC.size)⟩

      case last =>
        simp only [List.getLast?, List.getLast, Option.mem_def, Option.some.injEq]
        rintro o2 rfl
        intro a w1 hC hs hn
        have h1' : a.tmps.getD 35 undef = .pointer (some ⟨b, 0, none⟩) := hn 35 (by kernel_rfl)
        have h2' : a.tmps.getD 37 undef = .int .i64 L := hn 37 (by kernel_rfl)
        clear hs hn
        unfold Oper.wp
        simp only [execOp, Act.eval, h1', h2']
        go_simp
        refine (average_any b S L w1 ((hC.block b (by omega)).trans KS.out) ha (by omega) (by have := HLL.out; omega)).mono ?_
        rintro e w2 ⟨rfl, rfl⟩
        exact ⟨_, rfl, trivial, w1, hC, rfl⟩
      case fin =>
        intro f w1 hC hs hp
        obtain ⟨w0, hb0, rfl⟩ := hC
        have e0 : f 0 = .pointer (some ⟨b, 0, none⟩) := hs 0 (by kernel_rfl)
        have e3 : f 3 = .pointer (some ⟨n0, 0, none⟩) := hs 3 (by kernel_rfl)
        have e6 : f 6 = .pointer (some ⟨n3, 0, none⟩) := hs 6 (by kernel_rfl)
        clear hs hp
        have MS : Hid ((w0.drew.setCell ⟨b, 2, none⟩ (.float .f64 (avgF S.avg L))).heap[b]? = some (.cells ({ S with avg := avgF S.avg L } : StV).cells 58)) := (heap_set ((hb0.block b (by omega)).trans KS.out) _).trans (by simp [StV.cells])
        have M0 : Hid ((w0.drew.setCell ⟨b, 2, none⟩ (.float .f64 (avgF S.avg L))).heap[n0]? = some (.cells #[.pointer (some ⟨b, 0, none⟩)] 53)) := (Below.heap_setCell _ _ _ _ (by simp; omega)).trans ((hb0.block n0 (by omega)).trans K0.out)
        have M3 : Hid ((w0.drew.setCell ⟨b, 2, none⟩ (.float .f64 (avgF S.avg L))).heap[n3]? = some (.cells #[.int .i64 nb] 3)) := (Below.heap_setCell _ _ _ _ (by simp; omega)).trans ((hb0.block n3 (by omega)).trans K3.out)
        have MD : Hid ((w0.drew.setCell ⟨b, 2, none⟩ (.float .f64 (avgF S.avg L))).heap[D]? = some (.deferred (some []))) := (Below.heap_setCell _ _ _ _ (by simp; omega)).trans ((hb0.block D (Array.getElem?_eq_some_iff.1 HKD.out).1).trans HKD.out)
        have MT : Hid (Two b b w (w0.drew.setCell ⟨b, 2, none⟩ (.float .f64 (avgF S.avg L)))) := (HWT.out.trans (Two.below hb0)).drew.setCell _ _
        clear K0 K1 K3 KS HWT hb0 HKD hK
        simp only [List.size_toArray, List.length_cons, List.length_nil, List.range, List.range.loop, List.map_cons, List.map_nil, e0, e3, e6]
        generalize w0.drew.setCell ⟨b, 2, none⟩ (.float .f64 (avgF S.avg L)) = X at MS M0 M3 MD MT ⊢
        clear e0 e3 e6
        gi_wp2
        refine wpIn_wide.2 ?_
        refine wp_region_last (fun w' => w' = X.drew) (fun w' => w' = X.drew.setCell ⟨b, 15, none⟩ (.int .i64 (IntKind.i64.wrap (S.byes + nb)))) (psi9_10 b nb S.byes) 8 mixed rfl (by kernel_rfl) (by kernel_rfl) (by kernel_rfl) (by kernel_rfl) (by kernel_rfl) ?each ?last ?fin
        case each =>
          simp only [List.dropLast, List.forall_mem_cons]
          refine ⟨?_, ?_, ?_, ?_, ?_, ?_, ?_, ?_, fun _ h => by cases h⟩
          · intro a w1 hC hs hn
            have h1' : a.tmps.getD 3 undef = .pointer (some ⟨n0, 0, none⟩) := hs 3 (by kernel_rfl)
            have hc0 : w1.cell? ⟨n0, 0, none⟩ = some (.pointer (some ⟨b, 0, none⟩)) := by rw [hC]; exact cell_of M0.out
            have HC : Hid _ := hC
            clear hs hn hC
            unfold Oper.wp
            simp only [execOp, Act.eval, h1']
            go_simp
            exact ⟨_, rfl, rfl, HC.out⟩
          · intro a w1 hC hs hn
            have h1' : a.tmps.getD 39 undef = .pointer (some ⟨b, 0, none⟩) := hn 39 (by kernel_rfl)
            have HC : Hid _ := hC
            clear hs hn hC
            unfold Oper.wp
            simp only [execOp, Act.eval, h1']
            go_simp
            exact ⟨_, rfl, rfl, HC.out⟩
          · intro a w1 hC hs hn
            have h1' : a.tmps.getD 40 undef = .pointer (some ⟨b, 0, none⟩) := hn 40 (by kernel_rfl)
            have HC : Hid _ := hC
            clear hs hn hC
            unfold Oper.wp
            simp only [execOp, Act.eval, h1']
            go_simp
            exact ⟨_, rfl, rfl, HC.out⟩
          · intro a w1 hC hs hn
            have h1' : a.tmps.getD 41 undef = .pointer (some ⟨b, 15, none⟩) := hn 41 (by kernel_rfl)
            have hc0 : w1.cell? ⟨b, 15, none⟩ = some (.int .i64 S.byes) := by rw [hC]; exact cell_of MS.out
            have HC : Hid _ := hC
            clear hs hn hC
            unfold Oper.wp
            simp only [execOp, Act.eval, h1']
            go_simp
            exact ⟨_, rfl, rfl, HC.out⟩
          · intro a w1 hC hs hn
            have h1' : a.tmps.getD 6 undef = .pointer (some ⟨n3, 0, none⟩) := hs 6 (by kernel_rfl)
            have hc0 : w1.cell? ⟨n3, 0, none⟩ = some (.int .i64 nb) := by rw [hC]; exact cell_of M3.out
            have HC : Hid _ := hC
            clear hs hn hC
            unfold Oper.wp
            simp only [execOp, Act.eval, h1']
            go_simp
            exact ⟨_, rfl, rfl, HC.out⟩
          · intro a w1 hC hs hn
            have h1' : a.tmps.getD 42 undef = .int .i64 S.byes := hn 42 (by kernel_rfl)
            have h2' : a.tmps.getD 43 undef = .int .i64 nb := hn 43 (by kernel_rfl)
            have HC : Hid _ := hC
            clear hs hn hC
            unfold Oper.wp
            simp only [execOp, Act.eval, h1', h2']
            go_simp
            exact ⟨_, rfl, rfl, HC.out⟩
          · intro a w1 hC hs hn
            have h1' : a.tmps.getD 39 undef = .pointer (some ⟨b, 0, none⟩) := hn 39 (by kernel_rfl)
            have HC : Hid _ := hC
            clear hs hn hC
            unfold Oper.wp
            simp only [execOp, Act.eval, h1']
            go_simp
            exact ⟨_, rfl, rfl, HC.out⟩
          · intro a w1 hC hs hn
            have h1' : a.tmps.getD 45 undef = .pointer (some ⟨b, 0, none⟩) := hn 45 (by kernel_rfl)
            have HC : Hid _ := hC
            clear hs hn hC
            unfold Oper.wp
            simp only [execOp, Act.eval, h1']
            go_simp
            exact ⟨_, rfl, rfl, HC.out⟩

        case last =>
          simp only [List.getLast?, List.getLast, Option.mem_def, Option.some.injEq]
          rintro o2 rfl
          intro a w1 hC hs hn
          have h1' : a.tmps.getD 46 undef = .pointer (some ⟨b, 15, none⟩) := hn 46 (by kernel_rfl)
          have h2' : a.tmps.getD 44 undef = .int .i64 (IntKind.i64.wrap (S.byes + nb)) := hn 44 (by kernel_rfl)
          have hc0 : X.drew.cell? ⟨b, 15, none⟩ = some (.int .i64 S.byes) := cell_of MS.out
          have hf0 : X.drew.frozen? ⟨b, 15, none⟩ = false := frozen_of MS.out
          clear hs hn
          subst hC
          unfold Oper.wp
          simp only [execOp, Act.eval, h1', h2']
          go_simp
        case fin =>
          intro f w1 hC hs hp
          subst hC
          have MF : Hid ((X.drew.setCell ⟨b, 15, none⟩ (.int .i64 (IntKind.i64.wrap (S.byes + nb)))).heap[b]? = some (.cells ({ S with avg := avgF S.avg L, byes := IntKind.i64.wrap (S.byes + nb) } : StV).cells 58)) := (heap_set (w := X.drew) MS.out _).trans (by simp [StV.cells])
          have MDF : (X.drew.setCell ⟨b, 15, none⟩ (.int .i64 (IntKind.i64.wrap (S.byes + nb)))).heap[D]? = some (.deferred (some [])) := (Below.heap_setCell _ _ _ _ (by simp; omega)).trans MD.out
          clear hs hp
          gi_wp2
          refine ⟨by simp, .inl ⟨_, _, rfl, run_takeDeferred MDF, ?_⟩⟩
          refine ⟨_, results_none rfl _ _ _, rfl, ?_, ?_⟩
          · have e : leaveS S ps = { S with avg := avgF S.avg L, byes := IntKind.i64.wrap (S.byes + nb) } := by unfold leaveS; rw [HNB.out, if_neg h0, HLL.out]
            rw [e]
            exact (World.putObj_heap_other (by omega)).trans MF.out
          · exact (MT.out.drew.setCell _ _).put (by omega)
  case stop =>
    rintro D c pre W _ _ h _
    exact h.elim
end Go.Proofs.YbulkdsruGreatDoor
