import Derived.RangeFuncNested
import Derived.RangeFuncBound
import Derived.RangeFuncCalls
import Derived.RangeFuncLeaves
import Derived.Shelf.Abstract
import Derived.Shelf.RegionOpen
import Derived.WalkKit
import Derived.OwnWalkIn
import Derived.TacticsInMore
import Derived.LoopNIn
import Derived.LoopIn
import Derived.Test.YbulkdsruGreatDoorParse
namespace Go.Proofs.YbulkdsruGreatDoor
open Go.RowKit Go.Op Go.Shelf
set_option linter.unusedVariables false
set_option linter.unusedSimpArgs false
attribute [local go_sem] Oper.semAt_some

/-- Where packet k begins. -/
def offs (ps : List Pk) (k : Nat) : Nat := (flat (ps.take k)).length
/-- A packet's number. -/
abbrev Ix (ps : List Pk) := { k : Nat // k < ps.length }
/-- The packet as it is handed to a round. -/
def pkV (g o cap : Nat) (ps : List Pk) (x : Ix ps) : Value :=
  .agg #[.slice (some ⟨g, o + offs ps x.1, none⟩) (4 + 4 * (ps[x.1]'x.2).k) (cap - offs ps x.1), .int .i64 (4 + 4 * (ps[x.1]'x.2).k : Nat)]

/-- Every block of cells but b lies as it lay. -/
def KpB (b : Nat) (A B : World) : Prop := A.heap.size ≤ B.heap.size ∧ ∀ k o, A.heap[k]? = some o → k ≠ b → o.isCells = true → B.heap[k]? = some o

theorem KpB.trans {b : Nat} {A B C : World} (h : KpB b A B) (h' : KpB b B C) : KpB b A C :=
  ⟨Nat.le_trans h.1 h'.1, fun k o hk hb ho => h'.2 k o (h.2 k o hk hb ho) hb ho⟩
theorem KpB.cell {b : Nat} {A B : World} (h : KpB b A B) {g i : Nat} {v : Value} (hg : g ≠ b) (hc : A.cell? ⟨g, i, none⟩ = some v) : B.cell? ⟨g, i, none⟩ = some v := by
  unfold World.cell? at hc
  split at hc
  · rename_i c t f hb
    have := h.2 g _ hb hg rfl
    simp only [World.cell?]
    rw [this]
    exact hc
  · cases hc

theorem offs_succ (ps : List Pk) (k : Nat) (h : k < ps.length) : offs ps (k + 1) = offs ps k + (4 + 4 * (ps[k]).k) := by
  unfold offs
  rw [take_succ ps k h, flat_append, List.length_append]
  have : flat [ps[k]] = (ps[k]).bytes := by simp [flat]
  rw [this, Pk.len]
theorem drop_eq (ps : List Pk) (k : Nat) (h : k < ps.length) : ps.drop k = ps[k] :: ps.drop (k + 1) := List.drop_eq_getElem_cons h
theorem flat_split (ps : List Pk) (k : Nat) : flat ps = flat (ps.take k) ++ flat (ps.drop k) := by rw [← flat_append, List.take_append_drop]

def lenOf : Value → Nat | .slice _ n _ => n | _ => 0

theorem grown_of_below {w w' : World} (h : Below w.heap.size w w') : w.grownBy w' none := ⟨h.os, h.tape, h.output, h.size, fun k hk _ => h.block k hk⟩

set_option maxRecDepth 100000 in
set_option maxHeartbeats 2000000 in
theorem packets1 (n : Nat) (hn : 1 ≤ n) (l Bn g o cap b : Nat) (ps : List Pk) (hok : ∀ p ∈ ps, p.ok) (hcap : (flat ps).length ≤ cap) (hgb : g ≠ b) (hBb : Bn ≠ b) (J Jx : List (Ix ps) → World → Prop) (W : World)
    (hY : ∀ pre x W1, J pre W1 → pre.length < ps.length → YieldAt Fence.wide (n - 1) Ybaz.prog l #[pkV g o cap ps x] W1 fun e W' => (e = .returned (.bool true) ∧ J (pre ++ [x]) W' ∧ KpB b W1 W') ∨ (e = .returned (.bool false) ∧ Jx (pre ++ [x]) W'))
    (hJ : AbidesFrom W.heap.size J) (hBn : W.cell? ⟨Bn, 0, none⟩ = some (.slice (some ⟨g, o, none⟩) (flat ps).length cap)) (hr : Row W g o (flat ps)) (hg : g < W.heap.size) (hb : b < W.heap.size) (h0 : J [] W) :
    CallsIn Fence.wide n Ybaz.prog 45 #[.func (.yield l) #[] #[], .pointer (some ⟨Bn, 0, none⟩)] W fun e W' => (∃ v, e = .returned v) ∧ ((∃ xs, xs.map Subtype.val = List.range ps.length ∧ J xs W') ∨ (∃ pre, True ∧ Jx pre W')) := by
  refine callsIn_of_wp Ybaz.func45 rfl trivial ?_ rfl
  simp only [Ybaz.ntmps45, List.size_toArray, List.length_cons, List.length_nil, Nat.reduceAdd, Nat.reduceSub, Array.replicate_succ, Array.replicate_zero, List.push_toArray, List.append_toArray, List.nil_append, List.cons_append]
  have HOK : Hid _ := hok
  have HJ : Hid _ := hJ
  clear hok hJ
  gi_wp2
  gi_loopw [3] (fun p wr => ∃ (k : Nat) (a : Addr) (c : Nat) (pre : List (Ix ps)), k ≤ ps.length ∧ p = .slice (some a) (flat (ps.drop k)).length c ∧ Hid (k < ps.length → a = ⟨g, o + offs ps k, none⟩ ∧ c = cap - offs ps k) ∧ Hid (pre.map Subtype.val = List.range k) ∧ J pre wr ∧ Hid (Row wr g o (flat ps)) ∧ Hid (W.heap.size ≤ wr.heap.size))
    (fun p wr => lenOf p)
  case atStart =>
    exact ⟨0, ⟨g, o, none⟩, cap, [], Nat.zero_le _, rfl, fun _ => ⟨rfl, rfl⟩, rfl, h0, hr, Nat.le_refl _⟩
  case round =>
    obtain ⟨k, a, c, pre, hk, rfl, hac, hpre, hJs, hrow, hsz⟩ := hrel
    by_cases hkl : k = ps.length
    · have el : (flat (ps.drop k)).length = 0 := by rw [hkl]; simp [flat]
      rw [el]
      gi_wp2
      go_end0
      exact ⟨⟨_, rfl⟩, .inl ⟨pre, by rw [hpre.out, hkl], hJs⟩⟩
    · have hlt : k < ps.length := by omega
      obtain ⟨ea, ec⟩ := hac.out hlt
      subst ea
      have PK : Hid (ps[k]).ok := HOK.out _ (List.getElem_mem hlt)
      have GG : Hid (g < wr.heap.size) := Nat.lt_of_lt_of_le hg hsz.out
      have hrw : Row wr g (o + offs ps k) ((ps[k]).bytes ++ flat (ps.drop (k + 1))) := by
        have h2 := hrow.out
        rw [flat_split ps k, drop_eq ps k hlt, flat_cons] at h2
        exact h2.right
      have hle : offs ps k + (4 + 4 * (ps[k]).k + (flat (ps.drop (k + 1))).length) ≤ cap := by
        have := hcap
        rw [flat_split ps k, drop_eq ps k hlt, flat_cons, List.length_append, List.length_append, Pk.len] at this
        exact this
      have eL : (flat (ps.drop k)).length = 4 + 4 * (ps[k]).k + (flat (ps.drop (k + 1))).length := by rw [drop_eq ps k hlt, flat_cons, List.length_append, Pk.len]
      have hoff := offs_succ ps k hlt
      have HV : Hid (pkV g o cap ps ⟨k, hlt⟩ = .agg #[.slice (some ⟨g, o + offs ps k, none⟩) (4 + 4 * (ps[k]).k) (cap - offs ps k), .int .i64 (4 + 4 * (ps[k]).k : Nat)]) := rfl
      have hcut := fun hLc => cut_pk (ps[k]) (flat (ps.drop (k + 1))) g (o + offs ps k) (flat (ps.drop k)).length c wr PK.out GG.out hrw (by rw [eL, Pk.len]; omega) hLc
      have hcut := hcut (by rw [eL, ec]; omega)
      have HR0 : Hid (k + 1 < ps.length → 0 < (flat (ps.drop (k + 1))).length) := by
        intro h
        rw [drop_eq ps (k + 1) h, flat_cons, List.length_append, Pk.len]; omega
      rw [← ec] at HV
      rw [eL] at hcut ⊢
      obtain ⟨M, hM⟩ : ∃ M, 4 + 4 * (ps[k]).k = M := ⟨_, rfl⟩
      obtain ⟨R, hR⟩ : ∃ R, (flat (ps.drop (k + 1))).length = R := ⟨_, rfl⟩
      obtain ⟨o1, ho1⟩ : ∃ o1, o + offs ps k = o1 := ⟨_, rfl⟩
      have hM4 : 4 ≤ M := by omega
      rw [hM, hR, ho1] at hcut
      rw [hM, hR, ho1]
      rw [hM, ho1] at HV
      rw [hR] at HR0
      rw [hM] at hoff
      have hcM : M + R ≤ c := by rw [ec]; omega
      have HN : Hid (∀ (a : Addr) (c' : Nat) (pre' : List (Ix ps)) (wn : World), (k + 1 < ps.length → a = ⟨g, o1 + M, none⟩ ∧ c' = c - M) → pre' = pre ++ [⟨k, hlt⟩] → J pre' wn → Row wn g o (flat ps) → W.heap.size ≤ wn.heap.size →
          ∃ (k' : Nat) (a' : Addr) (c'' : Nat) (pre'' : List (Ix ps)), k' ≤ ps.length ∧ Value.slice (some a) R c' = .slice (some a') (flat (ps.drop k')).length c'' ∧ Hid (k' < ps.length → a' = ⟨g, o + offs ps k', none⟩ ∧ c'' = cap - offs ps k') ∧ Hid (pre''.map Subtype.val = List.range k') ∧ J pre'' wn ∧ Hid (Row wn g o (flat ps)) ∧ Hid (W.heap.size ≤ wn.heap.size)) := by
        intro a c' pre' wn h1 h2 h3 h4 h5
        refine ⟨k + 1, a, c', pre', hlt, by rw [hR], fun h => ?_, ?_, h3, h4, h5⟩
        · obtain ⟨e1, e2⟩ := h1 h
          rw [e1, e2, hoff, ← ho1, ec]
          exact ⟨by rw [Nat.add_assoc], by omega⟩
        · show pre'.map Subtype.val = List.range (k + 1)
          rw [h2, List.map_append, hpre.out, List.range_succ]; rfl
      have hplen : pre.length < ps.length := by
        have := congrArg List.length hpre.out
        simp at this; omega
      have HRW : Hid (Row wr g o (flat ps)) := hrow.out
      clear hle eL hoff hM hR ho1 ec hac hpre hrow hrw hkl
      obtain ⟨c1, hc1⟩ : ∃ c1, c1 = c := ⟨_, rfl⟩
      subst hc1
      have hMR : 0 < M + R := by omega
      have hMR2 : M ≤ M + R := by omega
      have hMc : M ≤ c1 := by omega
      gi_wp2
      refine ⟨trivial, ?_⟩
      gi_at_call 41
      refine (callsIn_wide.2 hcut).mono ?_
      clear hcut
      rintro e w1 ⟨rfl, hb1⟩
      have Bw1 : Hid (Below wr.heap.size wr w1) := hb1
      clear hb1
      unfold fz
      have B13 : Hid (Below wr.heap.size wr ((w1.alloc (.cells #[.slice (some ⟨g, o1, none⟩) M c1, .int .i64 M] 81)).alloc (.cells #[.string ⟨#[]⟩, .int .i64 0, .int .i64 0, .string ⟨#[]⟩, .string ⟨#[]⟩, .int .i64 0, .int .i64 0, .int .i64 0, .int .i64 0] 71))) := Bw1.out.trans ((((Below.refl _ w1).alloc (Nat.le_refl _) _).alloc (by simp) _).mono Bw1.out.size)
      have hJ3 : J pre ((w1.alloc (.cells #[.slice (some ⟨g, o1, none⟩) M c1, .int .i64 M] 81)).alloc (.cells #[.string ⟨#[]⟩, .int .i64 0, .int .i64 0, .string ⟨#[]⟩, .string ⟨#[]⟩, .int .i64 0, .int .i64 0, .int .i64 0, .int .i64 0] 71)) := HJ.out pre wr _ none hJs (grown_of_below B13.out) (fun r e => by cases e)
      have hR3 : Row ((w1.alloc (.cells #[.slice (some ⟨g, o1, none⟩) M c1, .int .i64 M] 81)).alloc (.cells #[.string ⟨#[]⟩, .int .i64 0, .int .i64 0, .string ⟨#[]⟩, .string ⟨#[]⟩, .int .i64 0, .int .i64 0, .int .i64 0, .int .i64 0] 71)) g o (flat ps) := HRW.out.below B13.out GG.out
      obtain ⟨fn, tmps, assign, body, hy, hR⟩ := hY pre ⟨k, hlt⟩ ((w1.alloc (.cells #[.slice (some ⟨g, o1, none⟩) M c1, .int .i64 M] 81)).alloc (.cells #[.string ⟨#[]⟩, .int .i64 0, .int .i64 0, .string ⟨#[]⟩, .string ⟨#[]⟩, .int .i64 0, .int .i64 0, .int .i64 0, .int .i64 0] 71)) hJ3 hplen
      rw [HV.out] at hy
      have p0 : ((w1.alloc (.cells #[.slice (some ⟨g, o1, none⟩) M c1, .int .i64 M] 81)).alloc (.cells #[.string ⟨#[]⟩, .int .i64 0, .int .i64 0, .string ⟨#[]⟩, .string ⟨#[]⟩, .int .i64 0, .int .i64 0, .int .i64 0, .int .i64 0] 71)).cell? ⟨w1.heap.size, 0, none⟩ = some (.slice (some ⟨g, o1, none⟩) M c1) := by simp [go_sem]
      have p1 : ((w1.alloc (.cells #[.slice (some ⟨g, o1, none⟩) M c1, .int .i64 M] 81)).alloc (.cells #[.string ⟨#[]⟩, .int .i64 0, .int .i64 0, .string ⟨#[]⟩, .string ⟨#[]⟩, .int .i64 0, .int .i64 0, .int .i64 0, .int .i64 0] 71)).cell? ⟨w1.heap.size, 1, none⟩ = some (.int .i64 M) := by simp [go_sem]
      have hwb : b < wr.heap.size := Nat.lt_of_lt_of_le hb hsz.out
      have nb : w1.heap.size ≠ b := by have := Bw1.out.size; omega
      have SZ3 : Hid (W.heap.size ≤ ((w1.alloc (.cells #[.slice (some ⟨g, o1, none⟩) M c1, .int .i64 M] 81)).alloc (.cells #[.string ⟨#[]⟩, .int .i64 0, .int .i64 0, .string ⟨#[]⟩, .string ⟨#[]⟩, .int .i64 0, .int .i64 0, .int .i64 0, .int .i64 0] 71)).heap.size) := Nat.le_trans hsz.out B13.out.size
      clear hJ3 HV HJ
      gi_wp2
      refine hR.mono ?_
      rintro e Wn (⟨rfl, hJn, hkp⟩ | ⟨rfl, hJxn⟩)
      · have r1 : Wn.cell? ⟨w1.heap.size, 1, none⟩ = some (.int .i64 M) := hkp.cell nb p1
        have RWn : Hid (Row Wn g o (flat ps)) := fun i v hv => hkp.cell hgb (hR3 i v hv)
        have SZn : Hid (W.heap.size ≤ Wn.heap.size) := Nat.le_trans SZ3.out hkp.1
        have HJn : Hid _ := hJn
        clear hJn hkp hR3 p0 p1
        gi_wp2
        go_roundw
        case rel =>
          by_cases hq : c1 = M
          · rw [if_pos hq]
            exact HN.out _ _ _ _ (fun h => by exfalso; have := HR0.out h; omega) rfl HJn.out RWn.out SZn.out
          · rw [if_neg hq]
            exact HN.out _ _ _ _ (fun h => ⟨rfl, rfl⟩) rfl HJn.out RWn.out SZn.out
        case measure =>
          show R < M + R
          omega
      · gi_wp2
        refine bodyPost_ret (results_none rfl _ _ _) rfl ?_
        exact ⟨⟨_, rfl⟩, .inr ⟨_, trivial, hJxn⟩⟩
/-- The packets, one after another. -/
theorem packets_stops (n : Nat) (hn : 1 ≤ n) (Bn g o cap b : Nat) (ps : List Pk) (hok : ∀ p ∈ ps, p.ok) (hcap : (flat ps).length ≤ cap) (hgb : g ≠ b) (hBb : Bn ≠ b) (w : World)
    (hBn : w.cell? ⟨Bn, 0, none⟩ = some (.slice (some ⟨g, o, none⟩) (flat ps).length cap)) (hr : Row w g o (flat ps)) (hg : g < w.heap.size) (hb : b < w.heap.size) (hB : Bn < w.heap.size) :
    SeqStopsK Fence.wide n Ybaz.prog 45 #[.pointer (some ⟨Bn, 0, none⟩)] (fun x : Ix ps => #[pkV g o cap ps x]) (KpB b) (fun xs => xs.map Subtype.val = List.range ps.length) (fun _ => True) ps.length w :=
  fun l J Jx W hW hJ hJx hY h0 => packets1 n hn l Bn g o cap b ps hok hcap hgb hBb J Jx W hY hJ ((hW.cell (p := ⟨Bn, 0, none⟩) hB).trans hBn) (hr.below hW hg) (Nat.lt_of_lt_of_le hg hW.size) (Nat.lt_of_lt_of_le hb hW.size) h0
end Go.Proofs.YbulkdsruGreatDoor
