/-
  The proof of 'Rows.LawS5974AWholeCardSaid': the frame after the kit's worked card of a listed table (MapyProofs, MapyCard); the walk is ours.
-/
import Derived.Test.YbulkdsruGreatDoorLaw
import Derived.Test.YbulkdsruGreatDoorArg
import Derived.Test.YbulkdsruGreatDoorCards
import Derived.Test.YbulkdsruGreatDoorTie
import Derived.LaidMore
import Derived.ProofKit
import Derived.OpenShut
import Derived.OpenVars
import Derived.ChangeOld
import Derived.Below
import Derived.Stop.Joined
import Derived.SevenTiedAt
namespace Go.Proofs.YbulkdsruGreatDoor.lawS5974AWhole
open Go.ChangeShapes Go.WideShapes Go.ChangeAt Go.RowKit
set_option linter.unusedVariables false

theorem own : ownKnob Ybaz.prog.godebug = none := by kernel_rfl
theorem laidOut : laidOutB Ybaz.prog = true := by kernel_rfl
theorem rowed : varsRowed Ybaz.prog ["example.com/rapporteur/rapporteur/rtcp.xrBlockTypes", "example.com/rapporteur/rapporteur/rtcp.subReportTypes"] = true := by kernel_rfl

/-- The door's own heap meets the condition. -/
theorem door_met (os : Os) (args : Array Value) : laidMetH Ybaz.prog Rows.lawS5974AWholeRow.laid ((World.doorLaid Ybaz.prog 400 os).forCall (fun _ _ => 0) ⟨#[], args, []⟩).memory :=
  laidMetH_of_parts3 (fuel := 8) (laidMet_of_run' 8 (by kernel_rfl) (by kernel_rfl)) (by kernel_rfl) (by kernel_rfl)

set_option maxRecDepth 100000 in
theorem lifted (os : Os) (started : os.Started) (H : Type) (enc : TypeId × Value → H) :
    ReturnsInHanded {} Ybaz.checked os 3 .any (fun w args => (Rows.lawS5974AWholeSpec.pre enc Ybaz.prog Ybaz.f3 [] false w args ∧ laidMetH Ybaz.prog Rows.lawS5974AWholeRow.laid w) ∧ sizedMet enc Ybaz.prog Ybaz.f3 (OpenSpec.ofChange Rows.lawS5974AWholeSpec) false w args)
      (Rows.lawS5974AWholeSpec.post enc Ybaz.prog Ybaz.f3 false true false false) := by
  refine returnsInHanded_of_change_and (C := Ybaz.checked) (X := fun w _ => laidMetH Ybaz.prog Rows.lawS5974AWholeRow.laid w) (fun _ _ _ hh h => h.of_heap hh) own started (by kernel_rfl) Ybaz.func3
    (ChangeSpec.witness_shaped (enc := enc) (C := Ybaz.checked) (os := os) (X := fun w _ => laidMetH Ybaz.prog Rows.lawS5974AWholeRow.laid w) false (World.doorLaid Ybaz.prog 400 os) #[.bool false, .int .i64 0, .int .u16 0, .int .u8 0, .int .i64 0, .int .i64 0, .int .i64 0, .slice none 0 0, .int .u8 0, .int .u32 0, .slice none 0 0] 8 rfl (World.shaped_of_RefB (by kernel_rfl) (by kernel_rfl)) (by kernel_rfl) (by kernel_rfl) (by kernel_rfl) (door_met os _)) ?_
  intro W base args ds gs before hval0 hW _ _ hL _
  have hval : ∀ (j : Nat) t v, Ybaz.f3.params[j]? = some t → args[j]? = some v → Value.okWide Ybaz.prog W .any base t v := hval0
  have hW' := hW
  obtain ⟨p, q, hA0, hV0, rfl, hfz, hnd⟩ := hW
  have hA : DataW.TrodAll enc Ybaz.prog W 0 (fun _ => true) true Ybaz.f3.params.toList args.toList ds p := hA0
  have hV : DataW.TrodVars enc Ybaz.prog W (fun _ => true) ["example.com/rapporteur/rapporteur/rtcp.xrBlockTypes", "example.com/rapporteur/rapporteur/rtcp.subReportTypes"] gs q := hV0
  obtain ⟨e1, e2, rfl⟩ : ∃ e1 e2, gs = [e1, e2] := by
    obtain ⟨_, _, _, _, e1, _, _, _, _, _, e2, _, h, _⟩ := trodVars_two hV
    exact ⟨e1, e2, h⟩
  rw [Ybaz.params3] at hA hval
  obtain ⟨v0, vs0, d0, ds0, p0, q0, hargs, rfl, rfl, h0, r0⟩ := trodAll_cons hA
  obtain ⟨v1, vs1, d1, ds1, p1, q1, rfl, rfl, rfl, h1, r1⟩ := trodAll_cons r0
  obtain ⟨v2, vs2, d2, ds2, p2, q2, rfl, rfl, rfl, h2, r2⟩ := trodAll_cons r1
  obtain ⟨v3, vs3, d3, ds3, p3, q3, rfl, rfl, rfl, h3, r3⟩ := trodAll_cons r2
  obtain ⟨v4, vs4, d4, ds4, p4, q4, rfl, rfl, rfl, h4, r4⟩ := trodAll_cons r3
  obtain ⟨v5, vs5, d5, ds5, p5, q5, rfl, rfl, rfl, h5, r5⟩ := trodAll_cons r4
  obtain ⟨v6, vs6, d6, ds6, p6, q6, rfl, rfl, rfl, h6, r6⟩ := trodAll_cons r5
  obtain ⟨v7, vs7, d7, ds7, p7, q7, rfl, rfl, rfl, h7, r7⟩ := trodAll_cons r6
  obtain ⟨v8, vs8, d8, ds8, p8, q8, rfl, rfl, rfl, h8, r8⟩ := trodAll_cons r7
  obtain ⟨v9, vs9, d9, ds9, p9, q9, rfl, rfl, rfl, h9, r9⟩ := trodAll_cons r8
  obtain ⟨v10, vs10, d10, ds10, p10, q10, rfl, rfl, rfl, h10, r10⟩ := trodAll_cons r9
  obtain ⟨rfl, rfl, rfl⟩ := trodAll_nil r10
  obtain rfl : args = #[v0, v1, v2, v3, v4, v5, v6, v7, v8, v9, v10] := by cases args; simp_all
  obtain ⟨lv, rfl, rfl, rfl⟩ := open_bool Ybaz.underlying4 (hval 0 4 v0 rfl rfl) h0
  obtain ⟨byes, rfl, rfl, rfl, w1⟩ := open_int Ybaz.underlying3 (hval 1 3 v1 rfl rfl) h1
  obtain ⟨avg, rfl, rfl, rfl, w2⟩ := open_int Ybaz.underlying22 (hval 2 22 v2 rfl rfl) h2
  obtain ⟨pm, rfl, rfl, rfl, w3⟩ := open_int Ybaz.underlying5 (hval 3 5 v3 rfl rfl) h3
  obtain ⟨dp, rfl, rfl, rfl, w4⟩ := open_int Ybaz.underlying2 (hval 4 2 v4 rfl rfl) h4
  obtain ⟨dn, rfl, rfl, rfl, w5⟩ := open_int Ybaz.underlying2 (hval 5 2 v5 rfl rfl) h5
  obtain ⟨dw, rfl, rfl, rfl, w6⟩ := open_int Ybaz.underlying2 (hval 6 2 v6 rfl rfl) h6
  obtain ⟨ai, ni, ci, rfl⟩ := okWide_slice Ybaz.underlying23 (hval 7 23 v7 rfl rfl)
  obtain ⟨first, rfl, rfl, rfl, w8⟩ := open_int Ybaz.underlying5 (hval 8 5 v8 rfl rfl) h8
  obtain ⟨fs, rfl, rfl, rfl, w9⟩ := open_int Ybaz.underlying24 (hval 9 24 v9 rfl rfl) h9
  obtain ⟨ap, np, cp, rfl⟩ := okWide_slice Ybaz.underlying25 (hval 10 25 v10 rfl rfl)
  have k7 := h7
  have k10 := h10
  have lt7 : ∀ x ∈ p7, x.block < W.heap.size := by obtain ⟨m, hm⟩ := k7; exact DataW.trod_lt m _ _ _ hm
  have lt10 : ∀ x ∈ p10, x.block < W.heap.size := by obtain ⟨m, hm⟩ := k10; exact DataW.trod_lt m _ _ _ hm
  obtain ⟨li, hli, hM⟩ : ∃ l : List IM, ni = l.length ∧ RowM W ai l := by obtain ⟨fuel, hf⟩ := h7; exact rowM_of hf
  obtain ⟨l, hl, hP⟩ : ∃ l : List IP, np = l.length ∧ RowP W ap l := by obtain ⟨fuel, hf⟩ := h10; exact rowP_of hf
  subst hli
  subst hl
  have b2 := bounds_u16 w2
  have b3 := bounds_u8 w3
  have b8 := bounds_u8 w8
  obtain ⟨pn, rfl⟩ : ∃ n : Nat, pm = (n : Nat) := ⟨pm.toNat, by omega⟩
  clear hA0 hval0 hV0
  refine (law_any W ci cp pn byes avg dp dn dw first fs lv ai ap li l b2.1 b2.2 (by omega) (bounds_i64 w1) (bounds_i64 w4) (bounds_i64 w5) (bounds_i64 w6) b8.1 b8.2 (u32_wf w9) hM hP).mono fun e W' ⟨he, bel⟩ => ?_
  subst he
  refine ⟨_, rfl, _, _, _, [], _, _, hW', trodAll_mk1 (shut_bool Ybaz.underlying4 _), trodAll_cons_mk (shut_bool Ybaz.underlying4 lv) (trodAll_cons_mk (shut_int Ybaz.underlying3 w1) (trodAll_cons_mk (shut_int Ybaz.underlying22 w2) (trodAll_cons_mk (shut_int Ybaz.underlying5 w3) (trodAll_cons_mk (shut_int Ybaz.underlying2 w4) (trodAll_cons_mk (shut_int Ybaz.underlying2 w5) (trodAll_cons_mk (shut_int Ybaz.underlying2 w6) (trodAll_cons_mk (Below.trod laidOut (by kernel_rfl) (of_decide_eq_true (by kernel_rfl)) k7 bel lt7) (trodAll_cons_mk (shut_int Ybaz.underlying5 w8) (trodAll_cons_mk (shut_int Ybaz.underlying24 w9) (trodAll_cons_mk (Below.trod laidOut (by kernel_rfl) (of_decide_eq_true (by kernel_rfl)) k10 bel lt10) trodAll_mk0)))))))))), Below.trodVars laidOut bel rowed hV, bel.frame _, fun h => by cases h⟩

theorem over : Rows.LawS5974AWholeSaid :=
  OpenClaim.holds_of_wide 3 Ybaz.f3 rfl rfl rfl rfl rfl rfl rfl ⟨rfl, rfl, rfl, rfl, rfl⟩ rfl rfl rfl rfl rfl (by kernel_rfl) Ybaz.func3 (by kernel_rfl)
    (of_decide_eq_true (by kernel_rfl)) (by unfold Func.isWrapper; first | (rw [if_pos (by decide +kernel)]; kernel_rfl) | (rw [if_neg (by decide +kernel)]; exact ⟨rfl, rfl⟩))
    (fun os started H enc _ => lifted os started H enc)

theorem proved : Rows.LawS5974AWholeCardSaid :=
  Claim7.holds_tied_plain_at .later [] [.data, .data, .data, .widerDeep, .widerDeep] true (true, "01844eb5a2f306632da82588fa69fde8af6f9d50c1d108a3c670154b3e97dd28") true
    over (fun _ h => by cases h) (by kernel_rfl) (fun _ h => by cases h) lawS5974AWhole_row_tie rfl ⟨rfl, rfl⟩ (by kernel_rfl) rfl
    (fun f fn hf hfn => by
      obtain rfl : f = 3 := Option.some.inj ((show Ybaz.prog.funcNamed "example.com/rapporteur/rapporteur/timing.LawS5974AWhole" = some 3 by kernel_rfl).symm.trans hf) |>.symm
      obtain rfl : fn = Ybaz.f3 := (Option.some.inj (Ybaz.func3.symm.trans hfn)).symm
      exact ⟨by kernel_rfl, fun j t ht => by
        rw [Ybaz.params3] at ht
        have hm : t ∈ [4, 3, 22, 5, 2, 2, 2, 23, 5, 24, 25] := by simpa using Array.mem_of_getElem? ht
        have hall : ([4, 3, 22, 5, 2, 2, 2, 23, 5, 24, 25].all fun u => !Ybaz.prog.wantsStandIn u) = true := by kernel_rfl
        exact (show Ybaz.prog.wantsStandIn t = false by simpa using List.all_eq_true.1 hall t hm)⟩)
    (by kernel_rfl)
#print axioms proved
end Go.Proofs.YbulkdsruGreatDoor.lawS5974AWhole
