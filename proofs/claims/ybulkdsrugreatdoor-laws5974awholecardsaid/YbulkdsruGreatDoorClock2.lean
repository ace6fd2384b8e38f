import Derived.Test.YbulkdsruGreatDoorClock
import Derived.Test.YbulkdsruGreatDoorEach
namespace Go.Proofs.YbulkdsruGreatDoor
open Go.RowKit Go.Op
set_option linter.unusedVariables false
set_option linter.unusedSimpArgs false

theorem mixed : Ybaz.prog.follows .mixedOrders = true := by kernel_rfl

theorem and2_top {n m : Int} (h0 : 0 ≤ n) (h1 : n < 1000000000) (g0 : 0 ≤ m) (g1 : m < 1000000000) : bits .and .u64 (bits .and .u64 n m) 9223372036854775808 = 0 := by
  obtain ⟨k, rfl⟩ := Int.eq_ofNat_of_zero_le h0
  obtain ⟨l, rfl⟩ := Int.eq_ofNat_of_zero_le g0
  have h := bits_and_u64_nat k l (by omega) (by omega)
  have hle : k &&& l ≤ k := Nat.and_le_left
  have h' : bits .and .u64 (k : Int) (l : Int) = ((k &&& l : Nat) : Int) := h
  rw [h']
  exact and_top (by omega) (by omega)

def eqF (n s m t : Int) : Bool := (s == t) && (n == m)
def bfF (n s m t : Int) : Bool := decide (s < t) || ((s == t) && decide (n < m))

set_option maxHeartbeats 2000000 in
theorem equal_any (n s m t : Int) (w : World) (h0 : 0 ≤ n) (h1 : n < 1000000000) (g0 : 0 ≤ m) (g1 : m < 1000000000) :
    Calls Ybaz.prog 11 #[tv n s, tv m t] w fun e w' => e = .returned (.bool (eqF n s m t)) ∧ Below w.heap.size w w' := by
  have b1 := and2_top h0 h1 g0 g1
  have H0 : Hid _ := h0
  have H1 : Hid _ := h1
  have G0 : Hid _ := g0
  have G1 : Hid _ := g1
  unfold tv
  cases hst : (s == t)
  · have HST : Hid _ := hst
    go_enter Ybaz.func11, Ybaz.ntmps11
    go_wp2_with fail
    go_at_call 33
    refine (sec_any _ _ n s _ H0.out H1.out (by simp [go_sem]) (by simp [go_sem])).mono ?_
    rintro e w' ⟨rfl, hw⟩
    rw [hw]
    clear hw
    go_wp2_with fail
    go_at_call 33
    refine (sec_any _ _ m t _ G0.out G1.out (by simp [go_sem]) (by simp [go_sem])).mono ?_
    rintro e w' ⟨rfl, hw⟩
    rw [hw]
    clear hw
    go_wp2_with fail
    go_ret
    exact ⟨by unfold eqF; rw [HST.out]; simp, ((Below.refl _ _).alloc (Nat.le_refl _) _).alloc (by simp) _⟩
  · have HST : Hid _ := hst
    go_enter Ybaz.func11, Ybaz.ntmps11
    go_wp2_with fail
    go_at_call 33
    refine (sec_any _ _ n s _ H0.out H1.out (by simp [go_sem]) (by simp [go_sem])).mono ?_
    rintro e w' ⟨rfl, hw⟩
    rw [hw]
    clear hw
    go_wp2_with fail
    go_at_call 33
    refine (sec_any _ _ m t _ G0.out G1.out (by simp [go_sem]) (by simp [go_sem])).mono ?_
    rintro e w' ⟨rfl, hw⟩
    rw [hw]
    clear hw
    go_wp2_with fail
    go_at_call 34
    refine (nsec_any _ _ n _ H0.out H1.out (by simp [go_sem])).mono ?_
    rintro e w' ⟨rfl, hw⟩
    rw [hw]
    clear hw
    go_wp2_with fail
    go_at_call 34
    refine (nsec_any _ _ m _ G0.out G1.out (by simp [go_sem])).mono ?_
    rintro e w' ⟨rfl, hw⟩
    rw [hw]
    clear hw
    go_wp2_with fail
    go_ret
    exact ⟨by unfold eqF; rw [HST.out]; simp, ((Below.refl _ _).alloc (Nat.le_refl _) _).alloc (by simp) _⟩

set_option maxHeartbeats 2000000 in
theorem before_any (n s m t : Int) (w : World) (h0 : 0 ≤ n) (h1 : n < 1000000000) (g0 : 0 ≤ m) (g1 : m < 1000000000) :
    Calls Ybaz.prog 39 #[tv n s, tv m t] w fun e w' => e = .returned (.bool (bfF n s m t)) ∧ Below w.heap.size w w' := by
  have b1 := and2_top h0 h1 g0 g1
  have H0 : Hid _ := h0
  have H1 : Hid _ := h1
  have G0 : Hid _ := g0
  have G1 : Hid _ := g1
  unfold tv
  by_cases c1 : s < t
  · go_enter Ybaz.func39, Ybaz.ntmps39
    go_wp2_with fail
    go_at_call 33
    refine (sec_any _ _ n s _ H0.out H1.out (by simp [go_sem]) (by simp [go_sem])).mono ?_
    rintro e w' ⟨rfl, hw⟩
    rw [hw]
    clear hw
    go_wp2_with fail
    go_at_call 33
    refine (sec_any _ _ m t _ G0.out G1.out (by simp [go_sem]) (by simp [go_sem])).mono ?_
    rintro e w' ⟨rfl, hw⟩
    rw [hw]
    clear hw
    go_wp2_with fail
    go_ret
    exact ⟨by unfold bfF; simp [c1], ((Below.refl _ _).alloc (Nat.le_refl _) _).alloc (by simp) _⟩
  · cases hst : (s == t)
    · have HST : Hid _ := hst
      go_enter Ybaz.func39, Ybaz.ntmps39
      go_wp2_with fail
      go_at_call 33
      refine (sec_any _ _ n s _ H0.out H1.out (by simp [go_sem]) (by simp [go_sem])).mono ?_
      rintro e w' ⟨rfl, hw⟩
      rw [hw]
      clear hw
      go_wp2_with fail
      go_at_call 33
      refine (sec_any _ _ m t _ G0.out G1.out (by simp [go_sem]) (by simp [go_sem])).mono ?_
      rintro e w' ⟨rfl, hw⟩
      rw [hw]
      clear hw
      go_wp2_with fail
      go_ret
      exact ⟨by unfold bfF; rw [HST.out]; simp [c1], ((Below.refl _ _).alloc (Nat.le_refl _) _).alloc (by simp) _⟩
    · have HST : Hid _ := hst
      go_enter Ybaz.func39, Ybaz.ntmps39
      go_wp2_with fail
      go_at_call 33
      refine (sec_any _ _ n s _ H0.out H1.out (by simp [go_sem]) (by simp [go_sem])).mono ?_
      rintro e w' ⟨rfl, hw⟩
      rw [hw]
      clear hw
      go_wp2_with fail
      go_at_call 33
      refine (sec_any _ _ m t _ G0.out G1.out (by simp [go_sem]) (by simp [go_sem])).mono ?_
      rintro e w' ⟨rfl, hw⟩
      rw [hw]
      clear hw
      go_wp2_with fail
      go_at_call 34
      refine (nsec_any _ _ n _ H0.out H1.out (by simp [go_sem])).mono ?_
      rintro e w' ⟨rfl, hw⟩
      rw [hw]
      clear hw
      go_wp2_with fail
      go_at_call 34
      refine (nsec_any _ _ m _ G0.out G1.out (by simp [go_sem])).mono ?_
      rintro e w' ⟨rfl, hw⟩
      rw [hw]
      clear hw
      go_wp2_with fail
      go_ret
      exact ⟨by unfold bfF; rw [HST.out]; simp [c1], ((Below.refl _ _).alloc (Nat.le_refl _) _).alloc (by simp) _⟩

set_option maxHeartbeats 2000000 in
theorem at_any (d : Int) (w : World) (hd0 : -9223372036854775808 ≤ d) (hd1 : d ≤ 9223372036854775807) :
    Calls Ybaz.prog 7 #[.int .i64 d] w fun e w' => e = .returned (tv (nsF 0 d) (addS 0 0 d)) ∧ Below w.heap.size w w' := by
  have D0 : Hid _ := hd0
  have D1 : Hid _ := hd1
  unfold tv
  go_enter Ybaz.func7, Ybaz.ntmps7
  go_wp2_with fail
  go_at_call 13
  refine (add_any 0 0 d _ (by omega) (by omega) D0.out D1.out).mono ?_
  rintro e w1 ⟨rfl, hb⟩
  unfold tv
  have hb1 : Below (w.heap.size + 1) (w.alloc (.cells #[.int .u64 0, .int .i64 0, .pointer none] 48)) w1 := hb.mono (by simp)
  have hc : ∀ o, w1.cell? ⟨w.heap.size, o, none⟩ = (w.alloc (.cells #[.int .u64 0, .int .i64 0, .pointer none] 48)).cell? ⟨w.heap.size, o, none⟩ := fun o => hb1.cell (p := ⟨w.heap.size, o, none⟩) (by simp)
  have hf : ∀ o, w1.frozen? ⟨w.heap.size, o, none⟩ = (w.alloc (.cells #[.int .u64 0, .int .i64 0, .pointer none] 48)).frozen? ⟨w.heap.size, o, none⟩ := fun o => hb1.frozen (p := ⟨w.heap.size, o, none⟩) (by simp)
  have HB : Hid (Below w.heap.size w w1) := ((Below.refl _ _).alloc (Nat.le_refl _) _).trans (hb1.mono (by simp))
  have hz : w.heap.size < w1.heap.size := by have := hb1.size; simp at this; omega
  clear hb hb1
  go_wp2_with fail
  refine bodyPost_ret (v := .agg #[.int .u64 (nsF 0 d), .int .i64 (addS 0 0 d), .pointer none]) (by simp [results, Ybaz.results7, go_sem, hc, hz]) rfl ⟨rfl, ?_⟩
  exact ((HB.out.setCell (Nat.le_refl _) _).setCell (Nat.le_refl _) _).setCell (Nat.le_refl _) _
end Go.Proofs.YbulkdsruGreatDoor
