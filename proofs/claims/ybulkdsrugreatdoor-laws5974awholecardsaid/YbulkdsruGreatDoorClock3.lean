import Derived.Test.YbulkdsruGreatDoorClock2
namespace Go.Proofs.YbulkdsruGreatDoor
open Go.RowKit Go.Op
set_option linter.unusedVariables false
set_option linter.unusedSimpArgs false

def rawD (n s m t : Int) : Int := wrap64 (wrap64 (wrap64 (s - t) * 1000000000) + (n - m))
theorem wrap64_bounds (x : Int) : -9223372036854775808 ≤ wrap64 x ∧ wrap64 x ≤ 9223372036854775807 := by unfold wrap64; omega
def subF (n s m t : Int) : Int :=
  if eqF (nsF m (rawD n s m t)) (addS m t (rawD n s m t)) n s = true then rawD n s m t else if bfF n s m t = true then -9223372036854775808 else 9223372036854775807
theorem subF_bounds (n s m t : Int) : -9223372036854775808 ≤ subF n s m t ∧ subF n s m t ≤ 9223372036854775807 := by
  have := wrap64_bounds (wrap64 (wrap64 (s - t) * 1000000000) + (n - m))
  unfold subF rawD
  split
  · exact this
  · split <;> omega

def psi15 (n s m t d : Int) : Nat → Value → Prop
  | 28 => fun v => v = tv m t
  | 29 => fun v => v = .int .i64 d
  | 30 => fun v => v = tv (nsF m d) (addS m t d)
  | 31 => fun v => v = tv n s
  | 32 => fun v => v = .bool (eqF (nsF m d) (addS m t d) n s)
  | 27 => fun v => v = .bool (eqF (nsF m d) (addS m t d) n s)
  | _ => fun _ => True

set_option maxHeartbeats 4000000 in
theorem sub_any (n s m t : Int) (w : World) (h0 : 0 ≤ n) (h1 : n < 1000000000) (g0 : 0 ≤ m) (g1 : m < 1000000000) :
    Calls Ybaz.prog 15 #[tv n s, tv m t] w fun e w' => e = .returned (.int .i64 (subF n s m t)) ∧ Below w.heap.size w w' := by
  have b1 := and2_top h0 h1 g0 g1
  have H0 : Hid _ := h0
  have H1 : Hid _ := h1
  have G0 : Hid _ := g0
  have G1 : Hid _ := g1
  have HS : Hid (subF n s m t = if eqF (nsF m (rawD n s m t)) (addS m t (rawD n s m t)) n s = true then rawD n s m t else if bfF n s m t = true then -9223372036854775808 else 9223372036854775807) := rfl
  have DB : Hid _ := wrap64_bounds (wrap64 (wrap64 (s - t) * 1000000000) + (n - m))
  go_enter Ybaz.func15, Ybaz.ntmps15
  unfold tv
  go_wp2_with fail
  go_at_call 33
  refine (sec_any _ _ n s _ H0.out H1.out (by simp [go_sem]) (by simp [go_sem])).mono ?_
  rintro e w' ⟨rfl, hw⟩
  rw [hw]
  clear hw
  go_wp2_with fail
  go_at_call 33
  refine (sec_any _ _ m t _ G0.out G1.out (by simp [go_sem]) (by simp [go_sem])).mono ?_
  rintro e w' ⟨rfl, hw⟩
  rw [hw]
  clear hw
  go_wp2_with fail
  go_at_call 34
  refine (nsec_any _ _ n _ H0.out H1.out (by simp [go_sem])).mono ?_
  rintro e w' ⟨rfl, hw⟩
  rw [hw]
  clear hw
  go_wp2_with fail
  go_at_call 34
  refine (nsec_any _ _ m _ G0.out G1.out (by simp [go_sem])).mono ?_
  rintro e w' ⟨rfl, hw⟩
  rw [hw]
  clear hw
  go_wp2_with fail
  refine wp_region_each (fun w' => Below (w.heap.size + 2) ((w.alloc (.cells #[.int .u64 n, .int .i64 s, .pointer none] 48)).alloc (.cells #[.int .u64 m, .int .i64 t, .pointer none] 48)) w') (psi15 n s m t (rawD n s m t)) mixed (Below.refl _ _).drew (by kernel_rfl) (by kernel_rfl) (by kernel_rfl) ?each ?fin
  case each =>
    simp only [List.forall_mem_cons]
    refine ⟨?_, ?_, ?_, ?_, ?_, ?_, fun _ h => by cases h⟩
    · intro a w1 hC hs hn
      have h1' : a.tmps.getD 3 undef = .pointer (some ⟨w.heap.size + 1, 0, none⟩) := hs 3 (by kernel_rfl)
      have hc0 : w1.cell? ⟨w.heap.size + 1, 0, none⟩ = some (.int .u64 m) := (hC.cell (p := ⟨w.heap.size + 1, 0, none⟩) (by simp)).trans (by simp [go_sem])
      have hc1 : w1.cell? ⟨w.heap.size + 1, 1, none⟩ = some (.int .i64 t) := (hC.cell (p := ⟨w.heap.size + 1, 1, none⟩) (by simp)).trans (by simp [go_sem])
      have hc2 : w1.cell? ⟨w.heap.size + 1, 2, none⟩ = some (.pointer none) := (hC.cell (p := ⟨w.heap.size + 1, 2, none⟩) (by simp)).trans (by simp [go_sem])
      clear hs hn
      unfold Oper.wp
      simp only [execOp, Act.eval, h1']
      go_simp
      exact ⟨_, rfl, rfl⟩
    · intro a w1 hC hs hn
      have h1' : a.tmps.getD 5 undef = .int .i64 (rawD n s m t) := hs 5 (by kernel_rfl)
      clear hs hn
      unfold Oper.wp
      simp only [execOp, Act.eval, h1']
      exact ⟨_, rfl, fun t ht => by cases ht; rfl, hC⟩
    · intro a w1 hC hs hn
      have h1' : a.tmps.getD 28 undef = tv m t := hn 28 (by kernel_rfl)
      have h2' : a.tmps.getD 29 undef = .int .i64 (rawD n s m t) := hn 29 (by kernel_rfl)
      clear hs hn
      unfold Oper.wp
      simp only [execOp, Act.eval, h1', h2']
      go_simp
      refine (add_any m t (rawD n s m t) _ G0.out G1.out DB.out.1 DB.out.2).mono ?_
      rintro e w2 ⟨rfl, hb⟩
      exact ⟨_, rfl, rfl, hC.trans (hb.mono (by have := hC.size; simpa using this))⟩
    · intro a w1 hC hs hn
      have h1' : a.tmps.getD 2 undef = .pointer (some ⟨w.heap.size, 0, none⟩) := hs 2 (by kernel_rfl)
      have hc0 : w1.cell? ⟨w.heap.size, 0, none⟩ = some (.int .u64 n) := (hC.cell (p := ⟨w.heap.size, 0, none⟩) (by simp)).trans (by simp [go_sem])
      have hc1 : w1.cell? ⟨w.heap.size, 1, none⟩ = some (.int .i64 s) := (hC.cell (p := ⟨w.heap.size, 1, none⟩) (by simp)).trans (by simp [go_sem])
      have hc2 : w1.cell? ⟨w.heap.size, 2, none⟩ = some (.pointer none) := (hC.cell (p := ⟨w.heap.size, 2, none⟩) (by simp)).trans (by simp [go_sem])
      clear hs hn
      unfold Oper.wp
      simp only [execOp, Act.eval, h1']
      go_simp
      exact ⟨_, rfl, rfl⟩
    · intro a w1 hC hs hn
      have h1' : a.tmps.getD 30 undef = tv (nsF m (rawD n s m t)) (addS m t (rawD n s m t)) := hn 30 (by kernel_rfl)
      have h2' : a.tmps.getD 31 undef = tv n s := hn 31 (by kernel_rfl)
      clear hs hn
      unfold Oper.wp
      simp only [execOp, Act.eval, h1', h2']
      go_simp
      refine (equal_any _ _ _ _ _ (nsF_bounds G0.out G1.out).1 (nsF_bounds G0.out G1.out).2 H0.out H1.out).mono ?_
      rintro e w2 ⟨rfl, hb⟩
      exact ⟨_, rfl, rfl, hC.trans (hb.mono (by have := hC.size; simpa using this))⟩
    · intro a w1 hC hs hn
      have h1' : a.tmps.getD 32 undef = .bool (eqF (nsF m (rawD n s m t)) (addS m t (rawD n s m t)) n s) := hn 32 (by kernel_rfl)
      clear hs hn
      unfold Oper.wp
      simp only [execOp, Act.eval, h1']
      exact ⟨_, rfl, fun t ht => by cases ht; rfl, hC⟩
  case fin =>
    intro f w1 hC hs hp
    have e27 : f 27 = .bool (eqF (nsF m (rawD n s m t)) (addS m t (rawD n s m t)) n s) := hp 27 (by kernel_rfl)
    have e2 : f 2 = .pointer (some ⟨w.heap.size, 0, none⟩) := hs 2 (by kernel_rfl)
    have e3 : f 3 = .pointer (some ⟨w.heap.size + 1, 0, none⟩) := hs 3 (by kernel_rfl)
    have e4 : f 4 = .int .i64 0 := hs 4 (by kernel_rfl)
    have e5 : f 5 = .int .i64 (rawD n s m t) := hs 5 (by kernel_rfl)
    have HB : Hid (Below w.heap.size w w1) := (((Below.refl _ _).alloc (Nat.le_refl _) _).alloc (by simp) _).trans (hC.mono (by omega))
    have q0 : w1.cell? ⟨w.heap.size, 0, none⟩ = some (.int .u64 n) := (hC.cell (p := ⟨w.heap.size, 0, none⟩) (by simp)).trans (by simp [go_sem])
    have q1 : w1.cell? ⟨w.heap.size, 1, none⟩ = some (.int .i64 s) := (hC.cell (p := ⟨w.heap.size, 1, none⟩) (by simp)).trans (by simp [go_sem])
    have q2 : w1.cell? ⟨w.heap.size, 2, none⟩ = some (.pointer none) := (hC.cell (p := ⟨w.heap.size, 2, none⟩) (by simp)).trans (by simp [go_sem])
    have q3 : w1.cell? ⟨w.heap.size + 1, 0, none⟩ = some (.int .u64 m) := (hC.cell (p := ⟨w.heap.size + 1, 0, none⟩) (by simp)).trans (by simp [go_sem])
    have q4 : w1.cell? ⟨w.heap.size + 1, 1, none⟩ = some (.int .i64 t) := (hC.cell (p := ⟨w.heap.size + 1, 1, none⟩) (by simp)).trans (by simp [go_sem])
    have q5 : w1.cell? ⟨w.heap.size + 1, 2, none⟩ = some (.pointer none) := (hC.cell (p := ⟨w.heap.size + 1, 2, none⟩) (by simp)).trans (by simp [go_sem])
    clear hs hp hC
    simp only [List.size_toArray, List.length_cons, List.length_nil, List.range, List.range.loop, List.map_cons, List.map_nil, e27, e2, e3, e4, e5]
    generalize rawD n s m t = d at HS
    cases he : eqF (nsF m d) (addS m t d) n s
    · have HE : Hid _ := he
      clear he e27 e2 e3 e4 e5
      go_wp2_with fail
      go_at_call 39
      refine (before_any n s m t _ H0.out H1.out G0.out G1.out).mono ?_
      rintro e w2 ⟨rfl, hb⟩
      have HB2 : Hid (Below w.heap.size w w2) := HB.out.trans (hb.mono HB.out.size)
      clear hb
      cases hf : bfF n s m t
      · have HF : Hid _ := hf
        clear hf
        go_wp2_with fail
        go_ret
        exact ⟨by rw [HS.out, HE.out, HF.out]; rfl, HB2.out⟩
      · have HF : Hid _ := hf
        clear hf
        go_wp2_with fail
        go_ret
        exact ⟨by rw [HS.out, HE.out, HF.out]; rfl, HB2.out⟩
    · have HE : Hid _ := he
      clear he e27 e2 e3 e4 e5
      go_wp2_with fail
      go_ret
      exact ⟨by rw [HS.out, HE.out]; rfl, HB.out⟩
end Go.Proofs.YbulkdsruGreatDoor
