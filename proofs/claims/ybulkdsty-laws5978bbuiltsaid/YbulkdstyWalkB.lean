import Derived.Test.YbulkdstyRows
import Derived.WalkKit
namespace Go.Proofs.Ybulkdsty
open Go.RowKit
set_option linter.unusedVariables false

/-! ### The plain functions -/
/-- A byte (as a number) that can spell a decimal number. -/
def okc (c : Int) : Bool := (decide (48 ≤ c) && decide (c ≤ 57)) || c == 43 || c == 45 || c == 46 || c == 101 || c == 69
def okAll (l : List UInt8) : Bool := l.all fun c => okc c.toNat

theorem take_snoc (s : ByteArray) (k : Nat) (h : k < s.size) : s.data.toList.take (k + 1) = s.data.toList.take k ++ [s[k]] := by
  rw [List.take_succ_eq_append_getElem (by simpa using h)]; rfl
theorem okAll_snoc (l : List UInt8) (c : UInt8) : okAll (l ++ [c]) = (okAll l && okc c.toNat) := by
  unfold okAll; simp
theorem okAll_step (s : ByteArray) (k : Nat) (h : k < s.size) : okAll (s.data.toList.take (k + 1)) = (okAll (s.data.toList.take k) && okc s[k].toNat) := by
  rw [take_snoc s k h, okAll_snoc]
theorem okAll_false {l : List UInt8} {k : Nat} (h : okAll (l.take k) = false) : okAll l = false := by
  unfold okAll at *
  rw [List.all_eq_false] at *
  obtain ⟨x, hx, hc⟩ := h
  exact ⟨x, List.mem_of_mem_take hx, hc⟩
theorem okc_iff (c : Int) : okc c = true ↔ ((48 ≤ c ∧ c ≤ 57) ∨ c = 43 ∨ c = 45 ∨ c = 46 ∨ c = 101 ∨ c = 69) := by
  unfold okc; simp; omega
theorem okc_no (c : Int) : okc c = false ↔ ¬ ((48 ≤ c ∧ c ≤ 57) ∨ c = 43 ∨ c = 45 ∨ c = 46 ∨ c = 101 ∨ c = 69) := by
  rw [← okc_iff]; simp
theorem ret_bool {a b : Bool} (h : a = b) : Ending.returned (.bool a) = .returned (.bool b) := by rw [h]

set_option maxHeartbeats 400000 in
theorem decimal_any (s : ByteArray) (w : World) (hs : s.size ≤ maxLen) :
    Calls Yba.prog 10 #[.string s] w fun e w' => e = .returned (.bool (okAll s.data.toList)) ∧ w' = w := by
  unfold maxLen at hs
  go_enter Yba.func10, Yba.ntmps10
  go_wp2
  go_loop [3] (fun i => ∃ k : Nat, k ≤ s.size ∧ i = .int .i64 k ∧ okAll (s.data.toList.take k) = true) (fun i => s.size - (intOf i).toNat)
  case atStart => exact ⟨0, Nat.zero_le _, rfl, rfl⟩
  case round =>
    obtain ⟨k, hk, rfl, hok⟩ := hrel
    by_cases hlt : k < s.size
    · have HS : Hid (okAll (s.data.toList.take (k + 1)) = (okAll (s.data.toList.take k) && okc s[k].toNat)) := okAll_step s k hlt
      have HO : Hid (okAll (s.data.toList.take k) = true) := hok
      clear hok
      go_wp2
      all_goals first
        | (go_round
           case rel => exact ⟨k + 1, by omega, by go_num, by rw [HS.out, HO.out, Bool.true_and, okc_iff]; simp only [beq_iff_eq, beq_eq_false_iff_ne] at *; omega⟩
           case measure => simp [intOf]; omega)
        | (go_ret
           exact ⟨ret_bool (okAll_false (k := k + 1) (by rw [HS.out, HO.out, Bool.true_and, okc_no]; simp only [beq_eq_false_iff_ne] at *; omega)).symm, rfl⟩)
    · go_wp2
      go_ret
      exact ⟨ret_bool (by rw [← hok, List.take_of_length_le (by simp; omega)]), rfl⟩

def oks : ByteArray := ⟨#[48, 49, 50, 51, 52, 53, 54, 55, 56, 57, 43, 45, 46, 101, 69]⟩
def tbl : List Int := [48, 49, 50, 51, 52, 53, 54, 55, 56, 57, 43, 45, 46, 101, 69]

theorem tbl_fin : ∀ k : Fin 15, (((oks[k.val]'(by have := k.isLt; simp [oks, ByteArray.size])).toNat : Nat) : Int) = tbl.getD k.val 0 ∧ okc (tbl.getD k.val 0) = true := by decide
theorem tbl_hit {k : Nat} {c : Int} (hp : k < oks.size) (h : (((oks[k]'hp).toNat : Int) == c) = true) : okc c = true := by
  have hk : k < 15 := hp
  have t := tbl_fin ⟨k, hk⟩
  simp only [beq_iff_eq] at h
  rw [← h, t.1]; exact t.2
theorem tbl_miss {k : Nat} {c : Int} (hp : k < oks.size) (h : (((oks[k]'hp).toNat : Int) == c) = false) (hn : ∀ j, j < k → tbl.getD j 0 ≠ c) : ∀ j, j < k + 1 → tbl.getD j 0 ≠ c := by
  have hk : k < 15 := hp
  have t := tbl_fin ⟨k, hk⟩
  simp only [beq_eq_false_iff_ne] at h
  intro j hj
  by_cases e : j = k
  · subst e; rw [← t.1]; exact h
  · exact hn j (by omega)

set_option maxHeartbeats 400000 in
theorem ok_any (c : Int) (w : World) (h0 : 0 ≤ c) (h1 : c ≤ 255) :
    Calls Yba.prog 18 #[.int .u8 c] w fun e w' => e = .returned (.bool (okc c)) ∧ w' = w := by
  go_enter Yba.func18, Yba.ntmps18
  go_wp2
  go_loop [3] (fun i => ∃ k : Nat, k ≤ 15 ∧ i = .int .i64 k ∧ ∀ j, j < k → tbl.getD j 0 ≠ c) (fun i => 15 - (intOf i).toNat)
  case atStart => exact ⟨0, Nat.zero_le _, rfl, fun j hj => by omega⟩
  case round =>
    obtain ⟨k, hk, rfl, hno⟩ := hrel
    have HN : Hid (∀ j, j < k → tbl.getD j 0 ≠ c) := hno
    clear hno
    by_cases hlt : k < 15
    · go_wp2
      · go_ret
        exact ⟨ret_bool (tbl_hit (k := k) (by show k < 15; omega) (by assumption)).symm, rfl⟩
      · go_round
        case rel => exact ⟨k + 1, by omega, by go_num, tbl_miss (k := k) (by show k < 15; omega) (by assumption) HN.out⟩
        case measure => simp [intOf]; omega
    · go_wp2
      go_ret
      obtain rfl : k = 15 := by omega
      refine ⟨ret_bool ?_, rfl⟩
      have h := HN.out
      have e : ∀ j, j < 15 → tbl.getD j 0 ≠ c := h
      symm
      rw [okc_no]
      have := e 0 (by omega); have := e 1 (by omega); have := e 2 (by omega); have := e 3 (by omega); have := e 4 (by omega); have := e 5 (by omega); have := e 6 (by omega); have := e 7 (by omega)
      have := e 8 (by omega); have := e 9 (by omega); have := e 10 (by omega); have := e 11 (by omega); have := e 12 (by omega); have := e 13 (by omega); have := e 14 (by omega)
      simp [tbl] at *
      omega

set_option maxHeartbeats 400000 in
theorem model_any (s : ByteArray) (w : World) (hs : s.size ≤ maxLen) :
    Calls Yba.prog 11 #[.string s] w fun e w' => e = .returned (.bool (okAll s.data.toList)) ∧ w' = w := by
  unfold maxLen at hs
  go_enter Yba.func11, Yba.ntmps11
  go_wp2
  go_loop [3, 4] (fun b i => ∃ k : Nat, k ≤ s.size ∧ i = .int .i64 k ∧ b = .bool (okAll (s.data.toList.take k))) (fun _ i => s.size - (intOf i).toNat)
  case atStart => exact ⟨0, Nat.zero_le _, rfl, rfl⟩
  case round =>
    obtain ⟨k, hk, rfl, rfl⟩ := hrel
    by_cases hlt : k < s.size
    · have HS : Hid (okAll (s.data.toList.take (k + 1)) = (okAll (s.data.toList.take k) && okc s[k].toNat)) := okAll_step s k hlt
      have hb : (s[k].toNat : Int) ≤ 255 := by have := s[k].toNat_lt; omega
      by_cases hc : okc s[k].toNat = true
      all_goals
        go_wp2_with (go_at_call 18; refine (ok_any _ _ (by omega) hb).mono ?_; rintro e w' ⟨rfl, rfl⟩)
        go_round
        case rel => exact ⟨k + 1, by omega, by go_num, by rw [HS.out]; simp [hc]⟩
        case measure => simp [intOf]; omega
    · go_wp2
      go_ret
      exact ⟨ret_bool (by rw [List.take_of_length_le (by simp; omega)]), rfl⟩
end Go.Proofs.Ybulkdsty
