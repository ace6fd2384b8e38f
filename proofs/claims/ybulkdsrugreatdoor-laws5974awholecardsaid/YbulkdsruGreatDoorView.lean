import Derived.Test.YbulkdsruGreatDoorClock
namespace Go.Proofs.YbulkdsruGreatDoor
open Go.RowKit Go.Op
set_option linter.unusedVariables false
set_option linter.unusedSimpArgs false

set_option maxHeartbeats 1000000 in
theorem type_any (b o len cap : Nat) (n : Int) (v : Int) (w : World) (hl : 2 ≤ len) (hb : b < w.heap.size) (hc : w.cell? ⟨b, o + 1, none⟩ = some (.int .u8 v)) :
    Calls Ybaz.prog 43 #[.agg #[.slice (some ⟨b, o, none⟩) len cap, .int .i64 n]] w fun e w' => e = .returned (.int .u8 v) ∧ Below w.heap.size w w' := by
  have hne : ¬ b = w.heap.size := by omega
  go_enter Ybaz.func43, Ybaz.ntmps43
  go_wp2_with fail
  go_ret
  exact ⟨rfl, (Below.refl _ _).alloc (Nat.le_refl _) _⟩

set_option maxHeartbeats 1000000 in
theorem count_any (b o len cap : Nat) (v : Int) (w : World) (hl : 1 ≤ len) (hc : w.cell? ⟨b, o, none⟩ = some (.int .u8 v)) :
    Calls Ybaz.prog 48 #[.slice (some ⟨b, o, none⟩) len cap] w fun e w' => e = .returned (.int .i64 (bits .and .u8 v 31)) ∧ w' = w := by
  have h0 := bits_lo_u8 .and v 31
  have h1 := bits_hi_u8 .and v 31
  go_enter Ybaz.func48, Ybaz.ntmps48
  go_wp2_with fail
  go_ret
  exact ⟨rfl, rfl⟩

set_option maxHeartbeats 1000000 in
theorem len_any (b o len cap : Nat) (w : World) :
    Calls Ybaz.prog 22 #[.agg #[.slice (some ⟨b, o, none⟩) len cap]] w fun e w' => e = .returned (.int .i64 len) ∧ Below w.heap.size w w' := by
  go_enter Ybaz.func22, Ybaz.ntmps22
  go_wp2_with fail
  go_ret
  exact ⟨rfl, (Below.refl _ _).alloc (Nat.le_refl _) _⟩

/-- The octets of a packet of the type t, or nil and false. -/
def asV (sl : Value) (v t : Int) : Value := if v = t then .tuple #[sl, .bool true] else .tuple #[.slice none 0 0, .bool false]

set_option maxHeartbeats 1000000 in
theorem as_any (b o len cap : Nat) (n v t : Int) (w : World) (hl : 2 ≤ len) (hb : b < w.heap.size) (hc : w.cell? ⟨b, o + 1, none⟩ = some (.int .u8 v)) :
    Calls Ybaz.prog 46 #[.agg #[.slice (some ⟨b, o, none⟩) len cap, .int .i64 n], .int .u8 t] w fun e w' => e = .returned (asV (.slice (some ⟨b, o, none⟩) len cap) v t) ∧ Below w.heap.size w w' := by
  have hne : ¬ b = w.heap.size := by omega
  have HL : Hid _ := hl
  have HB : Hid _ := hb
  have HC : Hid ((w.alloc (.cells #[.slice (some ⟨b, o, none⟩) len cap, .int .i64 n] 81)).cell? ⟨b, o + 1, none⟩ = some (.int .u8 v)) := (((Below.refl w.heap.size w).alloc (Nat.le_refl _) _).cell (p := ⟨b, o + 1, none⟩) hb).trans hc
  by_cases hv : v = t
  · have E : Hid (asV (.slice (some ⟨b, o, none⟩) len cap) v t = .tuple #[.slice (some ⟨b, o, none⟩) len cap, .bool true]) := by show asV _ v t = _; unfold asV; rw [if_pos hv]
    have hq : (v != t) = false := by simp [hv]
    clear hv
    go_enter Ybaz.func46, Ybaz.ntmps46
    go_wp2_with fail
    go_at_call 43
    refine (type_any b o len cap n v _ HL.out (by have := HB.out; simp; omega) HC.out).mono ?_
    rintro e w1 ⟨rfl, hb1⟩
    have B1 : Hid (Below (w.heap.size + 1) (w.alloc (.cells #[.slice (some ⟨b, o, none⟩) len cap, .int .i64 n] 81)) w1) := hb1.mono (by simp)
    have q0 : w1.cell? ⟨w.heap.size, 0, none⟩ = some (.slice (some ⟨b, o, none⟩) len cap) := (B1.out.cell (p := ⟨w.heap.size, 0, none⟩) (by simp)).trans (by simp [go_sem])
    clear hb1
    go_wp2_with fail
    go_ret2
    exact ⟨by rw [E.out]; rfl, ((Below.refl _ _).alloc (Nat.le_refl _) _).trans (B1.out.mono (by omega))⟩
  · have E : Hid (asV (.slice (some ⟨b, o, none⟩) len cap) v t = .tuple #[.slice none 0 0, .bool false]) := by show asV _ v t = _; unfold asV; rw [if_neg hv]
    have hq : (v != t) = true := by simp [hv]
    clear hv
    go_enter Ybaz.func46, Ybaz.ntmps46
    go_wp2_with fail
    go_at_call 43
    refine (type_any b o len cap n v _ HL.out (by have := HB.out; simp; omega) HC.out).mono ?_
    rintro e w1 ⟨rfl, hb1⟩
    have B1 : Hid (Below (w.heap.size + 1) (w.alloc (.cells #[.slice (some ⟨b, o, none⟩) len cap, .int .i64 n] 81)) w1) := hb1.mono (by simp)
    clear hb1
    go_wp2_with fail
    go_ret2
    exact ⟨by rw [E.out]; rfl, ((Below.refl _ _).alloc (Nat.le_refl _) _).trans (B1.out.mono (by omega))⟩
end Go.Proofs.YbulkdsruGreatDoor
