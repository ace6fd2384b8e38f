/-
  The proof of 'Rows.LawS5983BWholeCardSaid': the frame after the kit's worked card of a listed table (MapyProofs, MapyCard); the walk is ours.
-/
import Derived.Test.YbulkdswqDoorLawB
import Derived.Test.YbulkdswqDoorCards
import Derived.Test.YbulkdswqDoorTie
import Derived.LaidMore
import Derived.ProofKit
import Derived.OpenShut
import Derived.Stop.Joined
import Derived.SevenTiedAt
namespace Go.Proofs.YbulkdswqDoor.lawS5983BWhole
open Go.ChangeShapes Go.WideShapes Go.ChangeAt Go.RowKit
set_option linter.unusedVariables false

theorem own : ownKnob Ybad.prog.godebug = none := by kernel_rfl
theorem gJ : Ybad.prog.globalNamed "example.com/xuanji/xuanji/timescale.j2000" = some 0 := by kernel_rfl
theorem tJ : (Ybad.prog.globals[0]?).map (·.type) = some 24 := by kernel_rfl
theorem c22 : Ybad.prog.cellsOf 22 = 1 := by kernel_rfl
theorem c24 : Ybad.prog.cellsOf 24 = 2 := by kernel_rfl

theorem trod_float {H : Type} {enc : TypeId × Value → H} {P : Program} {w : World} {base : Nat} {sp : Nat → Bool} {held : Bool} {fuel : Nat} {t : TypeId} {k : FloatKind} {cs : List Value} {x : DataW H × List MemPlace}
    (ht : P.underlying t = some (.float k)) (h : DataW.trod enc P w base sp held fuel t cs = some x) : ∃ b, cs = [.float k b] ∧ x = (.lit (.float k b), []) ∧ (Lit.float k b).wf = true := by
  cases fuel with
  | zero => simp [DataW.trod] at h
  | succ n =>
    unfold DataW.trod at h
    rw [ht] at h
    split at h <;> simp_all

/-- A Julian day, opened: two words; and shut again in whatever world. -/
theorem open_jd {H : Type} {enc : TypeId × Value → H} {w : World} {sp : Nat → Bool} {held : Bool} {fuel : Nat} {cs : List Value} {d : DataW H} {p : List MemPlace}
    (h : DataW.trod enc Ybad.prog w 0 sp held fuel 24 cs = some (d, p)) :
    ∃ a b, cs = [.float .f64 a, .float .f64 b] ∧ d = .agg [.lit (.float .f64 a), .lit (.float .f64 b)] ∧ p = [] ∧ (Lit.float .f64 a).wf = true ∧ (Lit.float .f64 b).wf = true := by
  obtain ⟨xs, m, rfl, hx, hl, hxl, hel⟩ := DataW.trod_struct Ybad.underlying24 h
  have e0 := hel 0 _ rfl
  have e1 := hel 1 _ rfl
  simp only [c24] at hl
  match xs, hxl, cs, hl with
  | [x0, x1], _, [y0, y1], _ =>
    simp only [List.getElem?_cons_zero, List.getElem?_cons_succ] at e0 e1
    obtain ⟨a, ha, ha2, wa⟩ := trod_float Ybad.underlying22 e0
    obtain ⟨b, hb, hb2, wb⟩ := trod_float Ybad.underlying22 e1
    simp [c22] at ha hb
    subst ha hb ha2 hb2
    simp at hx
    exact ⟨a, b, rfl, hx.1, hx.2, wa, wb⟩

theorem shut_jd {H : Type} {enc : TypeId × Value → H} {w : World} {sp : Nat → Bool} {held : Bool} {a b : Nat} (wa : (Lit.float .f64 a).wf = true) (wb : (Lit.float .f64 b).wf = true) :
    DataW.trod enc Ybad.prog w 0 sp held 2 24 [.float .f64 a, .float .f64 b] = some (.agg [.lit (.float .f64 a), .lit (.float .f64 b)], []) := by
  simp [DataW.trod, Ybad.underlying24, Ybad.underlying22, c22, c24, wa, wb]

/-- What the row's condition gives the walks. -/
theorem of_laid {W : World} (h : laidMetH Ybad.prog Rows.lawS5983BWholeRow.laid W) : J2k W := by
  rw [MakeChecks.laidMetH_plain _ _ _ (by kernel_rfl)] at h
  obtain ⟨ps, ⟨g0, t0, cs0, f0, p0, q0, hg0, ht0, hv0, hd0, _, _⟩, _, _⟩ := h
  obtain rfl := Option.some.inj (gJ.symm.trans hg0)
  obtain rfl := Option.some.inj (tJ.symm.trans ht0)
  obtain ⟨a, b, hcs, hd, _, _, _⟩ := open_jd hd0
  have hd' : (DataW.agg [.lit (.float .f64 4702519064147263488), .lit (.float .f64 0)] : DataW Unit) = .agg [.lit (.float .f64 a), .lit (.float .f64 b)] := hd
  simp at hd'
  obtain ⟨rfl, rfl⟩ := hd'
  have k : ∀ i, W.cell? ⟨0, i, none⟩ = ([Value.float .f64 4702519064147263488, Value.float .f64 0] : List Value)[i]? := fun i => by
    rw [World.var?_cell hg0 hv0 i, ← hcs]; simp
  exact ⟨k 0, k 1, World.block_lt_of_cell? _ _ (k 0)⟩

/-- The door's own heap meets the condition. -/
theorem door_met (os : Os) (args : Array Value) : laidMetH Ybad.prog Rows.lawS5983BWholeRow.laid ((World.doorLaid Ybad.prog 400 os).forCall (fun _ _ => 0) ⟨#[], args, []⟩).memory :=
  laidMetH_of_parts3 (fuel := 8) (laidMet_of_run' 8 (by kernel_rfl) (by kernel_rfl)) (by kernel_rfl) (by kernel_rfl)

theorem var_below {P : Program} {W W' : World} {n : String} {g : Nat} {cs : Array Value} (hg : P.globalNamed n = some g) (h : W.var? P n = some cs) (hb : Below W.heap.size W W') (hl : g < W.heap.size) : W'.var? P n = some cs := by
  simp only [World.var?, hg, Option.bind_some] at h ⊢
  rw [hb.block g hl]
  exact h

set_option maxRecDepth 100000 in
theorem lifted (os : Os) (started : os.Started) (H : Type) (enc : TypeId × Value → H) :
    ReturnsInHanded {} Ybad.checked os 3 .any (fun w args => (Rows.lawS5983BWholeSpec.pre enc Ybad.prog Ybad.f3 [] false w args ∧ laidMetH Ybad.prog Rows.lawS5983BWholeRow.laid w) ∧ sizedMet enc Ybad.prog Ybad.f3 (OpenSpec.ofChange Rows.lawS5983BWholeSpec) false w args)
      (Rows.lawS5983BWholeSpec.post enc Ybad.prog Ybad.f3 false true false false) := by
  refine returnsInHanded_of_change_and (C := Ybad.checked) (X := fun w _ => laidMetH Ybad.prog Rows.lawS5983BWholeRow.laid w) (fun _ _ _ hh h => h.of_heap hh) own started (by kernel_rfl) Ybad.func3
    (ChangeSpec.witness_shaped (enc := enc) (C := Ybad.checked) (os := os) (X := fun w _ => laidMetH Ybad.prog Rows.lawS5983BWholeRow.laid w) false (World.doorLaid Ybad.prog 400 os) #[.int .u8 0] 8 rfl (World.shaped_of_RefB (by kernel_rfl) (by kernel_rfl)) (by kernel_rfl) (by kernel_rfl) (by kernel_rfl) (door_met os _)) ?_
  intro W base args ds gs before hval0 hW _ _ hL _
  have hval : ∀ (j : Nat) t v, Ybad.f3.params[j]? = some t → args[j]? = some v → Value.okWide Ybad.prog W .any base t v := hval0
  have hW' := hW
  obtain ⟨p, q, hA0, hV0, rfl, hfz, hnd⟩ := hW
  have hA : DataW.TrodAll enc Ybad.prog W 0 (fun _ => true) true Ybad.f3.params.toList args.toList ds p := hA0
  have hV : DataW.TrodVars enc Ybad.prog W (fun _ => true) ["example.com/xuanji/xuanji/timescale.j2000"] gs q := hV0
  rw [Ybad.params3] at hA hval
  obtain ⟨v0, d0, rfl, rfl, h0⟩ := trodAll_one hA
  obtain ⟨n, rfl, rfl, rfl, wn⟩ := open_int Ybad.underlying5 (hval 0 5 v0 rfl rfl) h0
  obtain ⟨g, t, cs, fuel, d, p1, rfl, hg, ht, hvar, htr, rfl⟩ := trodVars_one hV
  obtain rfl := Option.some.inj (gJ.symm.trans hg)
  obtain rfl := Option.some.inj (tJ.symm.trans ht)
  obtain ⟨a, b, hcs, rfl, rfl, wa, wb⟩ := open_jd htr
  have hJ := of_laid hL
  have hb5 := bounds_u8 wn
  clear hA0 hval0 hV0
  refine (lawB_any n W hb5.1 hb5.2 hJ).mono fun e W' ⟨he, bel⟩ => ?_
  subst he
  refine ⟨_, rfl, _, _, _, [], [], _, hW', trodAll_mk1 (shut_bool Ybad.underlying4 _), trodAll_mk1 (shut_int Ybad.underlying5 wn), trodVars_mk1 (fuel := 2) gJ tJ (var_below gJ hvar bel hJ.c) (by rw [hcs]; exact shut_jd wa wb), bel.frame _, fun h => by cases h⟩

theorem over : Rows.LawS5983BWholeSaid :=
  OpenClaim.holds_of_wide 3 Ybad.f3 rfl rfl rfl rfl rfl rfl rfl ⟨rfl, rfl, rfl, rfl, rfl⟩ rfl rfl rfl rfl rfl (by kernel_rfl) Ybad.func3 (by kernel_rfl)
    (of_decide_eq_true (by kernel_rfl)) (by unfold Func.isWrapper; first | (rw [if_pos (by decide +kernel)]; kernel_rfl) | (rw [if_neg (by decide +kernel)]; exact ⟨rfl, rfl⟩))
    (fun os started H enc _ => lifted os started H enc)

theorem proved : Rows.LawS5983BWholeCardSaid :=
  Claim7.holds_tied_plain_at .later [] [.wider] true (true, "0121d980f8210ee520e98059bcb124c82347187c48b5657b8c592f174c7fef5d") false
    over (fun _ h => by cases h) (by kernel_rfl) (fun _ h => by cases h) lawS5983BWhole_row_tie rfl ⟨rfl, rfl⟩ (by kernel_rfl) rfl
    (fun f fn hf hfn => by
      obtain rfl : f = 3 := Option.some.inj ((show Ybad.prog.funcNamed "example.com/xuanji/xuanji/moon.LawS5983BWhole" = some 3 by kernel_rfl).symm.trans hf) |>.symm
      obtain rfl : fn = Ybad.f3 := (Option.some.inj (Ybad.func3.symm.trans hfn)).symm
      exact ⟨by kernel_rfl, fun j t ht => by
        rw [Ybad.params3] at ht
        have hm : t ∈ [5] := by simpa using Array.mem_of_getElem? ht
        have hall : ([5].all fun u => !Ybad.prog.wantsStandIn u) = true := by kernel_rfl
        exact (show Ybad.prog.wantsStandIn t = false by simpa using List.all_eq_true.1 hall t hm)⟩)
    (by kernel_rfl)
#print axioms proved
end Go.Proofs.YbulkdswqDoor.lawS5983BWhole
