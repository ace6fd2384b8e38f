import Derived.Test.YbulkdstyWalkB
import Derived.WalkLawsBesides
import Derived.WalkSpells
import Derived.Deep.OwnRows
namespace Go.Proofs.Ybulkdsty
open Go.RowKit
set_option linter.unusedVariables false

theorem Yba.info5 : (Yba.prog.info? 5).map (fun i => (i.zero, i.size, i.bytes)) = some (some (.int .u8 0), 1, 1) := by kernel_rfl

/-! ### The pool -/
def poolB : ByteArray := ⟨#[48, 49, 50, 51, 52, 53, 54, 55, 56, 57, 43, 45, 46, 101, 69, 47, 58, 100, 102, 68, 70, 32, 44, 42, 128, 255]⟩
def pool : List Int := [48, 49, 50, 51, 52, 53, 54, 55, 56, 57, 43, 45, 46, 101, 69, 47, 58, 100, 102, 68, 70, 32, 44, 42, 128, 255]
def poolAt (n : Int) : Int := pool.getD (n % 26).toNat 0
def good (n : Int) : Bool := decide (n % 26 < 15)

theorem pool_fin : ∀ k : Fin 26, (((poolB[k.val]'(by have := k.isLt; simp [poolB, ByteArray.size])).toNat : Nat) : Int) = pool.getD k.val 0 ∧ okc (pool.getD k.val 0) = decide (k.val < 15) ∧ 0 ≤ pool.getD k.val 0 ∧ pool.getD k.val 0 ≤ 255 := by decide
theorem mod_lt (n : Int) : (n % 26).toNat < 26 := by omega
theorem pool_at (n : Int) (hp : (n % 26).toNat < poolB.size) : ((poolB[(n % 26).toNat]'hp).toNat : Int) = poolAt n := (pool_fin ⟨_, mod_lt n⟩).1
theorem pool_ok (n : Int) : okc (poolAt n) = good n := by
  have h := (pool_fin ⟨_, mod_lt n⟩).2.1
  unfold poolAt good
  rw [h]
  have : ((n % 26).toNat < 15) ↔ (n % 26 < 15) := by omega
  simp [this]
theorem pool_bd (n : Int) : 0 ≤ poolAt n ∧ poolAt n ≤ 255 := (pool_fin ⟨_, mod_lt n⟩).2.2

theorem okAll_str (xs : List Int) (h : ∀ n ∈ xs, 0 ≤ n ∧ n ≤ 255) : okAll (strOfNums xs).data.toList = xs.all okc := by
  rw [strOfNums_data]
  unfold okAll
  induction xs with
  | nil => rfl
  | cons n xs ih =>
    have hn := h n (by simp)
    have e : ((UInt8.ofNat n.toNat).toNat : Int) = n := by
      rw [UInt8.toNat_ofNat']; omega
    simp only [List.map_cons, List.all_cons, e]
    rw [ih (fun m hm => h m (by simp [hm]))]

theorem okAll_pool (zs : List Int) : okAll (strOfNums (zs.map poolAt)).data.toList = zs.all good := by
  rw [okAll_str _ (by intro n hn; obtain ⟨m, _, rfl⟩ := List.mem_map.1 hn; exact pool_bd m)]
  simp [List.all_map, Function.comp_def, pool_ok]

theorem all_step (zs : List Int) (k : Nat) (h : k < zs.length) : (zs.take (k + 1)).all good = ((zs.take k).all good && good (zs[k]?.getD 0)) := by
  rw [List.take_succ_eq_append_getElem h, List.all_append]
  simp [h]

/-- Behind k rounds of the filling loop: the row at block B holds k bytes of the pool, then zeros. -/
structure Fil (B len : Nat) (zs : List Int) (k : Nat) (w wr : World) : Prop where
  cell : ∀ j : Nat, j < len → wr.cell? ⟨B, j, none⟩ = some (.int .u8 (if j < k then poolAt (zs[j]?.getD 0) else 0))
  free : ∀ j : Nat, wr.frozen? ⟨B, j, none⟩ = false
  bel : Below B w wr
  size : B < wr.heap.size

theorem Fil.start (w : World) (len : Nat) (zs : List Int) : Fil w.heap.size len zs 0 w (w.alloc (.cells (madeCells #[.int .u8 0] len) 5)) := by
  refine ⟨fun j hj => ?_, fun j => ?_, (Below.refl _ _).alloc (Nat.le_refl _) _, by simp⟩
  · rw [World.cell?_alloc_at _ _ _ _ rfl, ← Array.getElem?_toList, toList_madeCells_one]
    simp [hj]
  · simp [go_sem]

theorem Fil.step {B len : Nat} {zs : List Int} {k : Nat} {w wr : World} (h : Fil B len zs k w wr) (hk : k < len) (v : Int) (hv : v = poolAt (zs[k]?.getD 0)) : Fil B len zs (k + 1) w (wr.setCell ⟨B, k, none⟩ (.int .u8 v)) := by
  refine ⟨fun j hj => ?_, fun j => by rw [World.frozen?_setCell]; exact h.free j, h.bel.setCell (Nat.le_refl _) _, by simpa [World.setCell] using h.size⟩
  by_cases e : j = k
  · subst e
    rw [World.cell?_setCell_same _ _ _ (h.cell j hj)]
    simp [hv]
  · rw [World.cell?_setCell_other _ _ _ _ (show (⟨B, k, none⟩ : Addr) ≠ ⟨B, j, none⟩ by intro h; cases h; exact e rfl), h.cell j hj]
    have : (j < k + 1) ↔ (j < k) := by omega
    simp [this]

theorem Fil.str {B len : Nat} {zs : List Int} {w wr : World} (h : Fil B len zs len w wr) (hz : zs.length = len) (cap : Nat) :
    (convert 30 9 (.slice (some ⟨B, 0, none⟩) len cap)).run Yba.prog wr = .ok (.string (strOfNums (zs.map poolAt))) wr := by
  refine run_convert_bytes_arg wr 30 5 Yba.underlying30 Yba.underlying5 B 0 len cap (zs.map poolAt) (by simpa using hz) (fun i hi => ?_) 9 Yba.underlying9
  rw [Nat.zero_add, h.cell i hi, if_pos hi]
  simp [hz, hi]

set_option maxHeartbeats 400000 in
theorem built_long (a : Option Addr) (len cap : Nat) (w : World) (hl : 65536 < len) (hm : len ≤ maxLen) :
    Calls Yba.prog 5 #[.slice a len cap] w fun e w' => e = .returned (.bool true) ∧ Below w.heap.size w w' := by
  unfold maxLen at hm
  go_enter Yba.func5, Yba.ntmps5
  go_wp2
  go_ret
  exact ⟨rfl, Below.refl _ _⟩

set_option maxHeartbeats 800000 in
theorem built_empty (a : Option Addr) (cap : Nat) (w : World) :
    Calls Yba.prog 5 #[.slice a 0 cap] w fun e w' => e = .returned (.bool true) ∧ Below w.heap.size w w' := by
  have hmk := fun w => run_make_row' (P := Yba.prog) 30 5 (.int .u8 0) 1 Yba.underlying30 Yba.info5 rfl .i64 .i64 0 (by omega) (by omega) w
  simp only [Int.natCast_zero] at hmk
  have hcv := (Fil.start w 0 []).str rfl 0
  simp only [List.map_nil] at hcv
  go_enter Yba.func5, Yba.ntmps5
  go_wp2
  refine wp_loop_rounds 1 ?_
  rw [rounds_succ]
  go_wp2
  refine wp_loop_rounds 1 ?_
  rw [rounds_succ]
  go_wp2_with fail
  refine (decimal_any _ _ (by rw [strOfNums_size]; simp)).mono ?_
  rintro e w' ⟨rfl, rfl⟩
  have hd : okAll (strOfNums []).data.toList = true := rfl
  go_wp2
  go_ret
  exact ⟨rfl, (Below.refl _ _).alloc (Nat.le_refl _) _⟩

set_option maxHeartbeats 1000000 in
theorem built_some (b off len cap : Nat) (zs : List Int) (w : World) (hl : len ≤ 65536) (hzl : zs.length = len)
    (hb : b < w.heap.size) (hc : ∀ j : Nat, j < len → w.cell? ⟨b, off + j, none⟩ = some (.int .u8 (zs[j]?.getD 0))) (hz : ∀ j : Nat, 0 ≤ zs[j]?.getD 0 ∧ zs[j]?.getD 0 ≤ 255):
    Calls Yba.prog 5 #[.slice (some ⟨b, off, none⟩) len cap] w fun e w' => e = .returned (.bool true) ∧ Below w.heap.size w w' := by
  have hmk := fun w => run_make_row' (P := Yba.prog) 30 5 (.int .u8 0) 1 Yba.underlying30 Yba.info5 rfl .i64 .i64 len (by omega) (by omega) w
  have HC : Hid (∀ j : Nat, j < len → w.cell? ⟨b, off + j, none⟩ = some (.int .u8 (zs[j]?.getD 0))) := hc
  have HZ : Hid (∀ j : Nat, 0 ≤ zs[j]?.getD 0 ∧ zs[j]?.getD 0 ≤ 255) := hz
  have HL : Hid (zs.length = len) := hzl
  clear hc hz hzl
  go_enter Yba.func5, Yba.ntmps5
  go_wp2
  go_loopw [4] (fun i wr => ∃ k : Nat, k ≤ len ∧ i = .int .i64 k ∧ Fil w.heap.size len zs k w wr) (fun i _ => len - (intOf i).toNat)
  case atStart => exact ⟨0, Nat.zero_le _, rfl, Fil.start w len zs⟩
  case round =>
    obtain ⟨k, hk, rfl, hfl⟩ := hrel
    by_cases hlt : k < len
    · have c1 : wr.cell? ⟨b, off + k, none⟩ = some (.int .u8 (zs[k]?.getD 0)) := (hfl.bel.cell (p := ⟨b, off + k, none⟩) hb).trans (HC.out k hlt)
      have c2 := hfl.cell k hlt
      have c3 := hfl.free k
      have z1 := (HZ.out k).1
      have z2 := (HZ.out k).2
      have ST : Hid (∀ v : Int, v = poolAt (zs[k]?.getD 0) → Fil w.heap.size len zs (k + 1) w (wr.setCell ⟨w.heap.size, k, none⟩ (.int .u8 v))) := hfl.step hlt
      clear hfl
      go_wp2
      go_roundw
      case rel => exact ⟨k + 1, by omega, by go_num, ST.out _ (pool_at _ _)⟩
      case measure => simp [intOf]; omega
    · obtain rfl : k = len := by omega
      have hcv := hfl.str HL.out k
      have HB : Hid (Below w.heap.size w wr) := hfl.bel
      clear hfl
      go_wp2
      go_loop [6, 7] (fun g i => ∃ m : Nat, m ≤ k ∧ i = .int .i64 m ∧ g = .bool ((zs.take m).all good)) (fun _ i => k - (intOf i).toNat)
      case atStart => exact ⟨0, Nat.zero_le _, rfl, rfl⟩
      case round =>
        obtain ⟨m, hm, rfl, rfl⟩ := hrel
        by_cases hlt2 : m < k
        · have c1 : wr.cell? ⟨b, off + m, none⟩ = some (.int .u8 (zs[m]?.getD 0)) := (Below.cell HB.out (p := ⟨b, off + m, none⟩) hb).trans (HC.out m hlt2)
          have z1 := (HZ.out m).1
          have z2 := (HZ.out m).2
          have ST : Hid ((zs.take (m + 1)).all good = ((zs.take m).all good && good (zs[m]?.getD 0))) := all_step zs m (by have := HL.out; omega)
          go_wp2
          all_goals
            go_round
            case rel => exact ⟨m + 1, by omega, by go_num, by rw [ST.out]; first | rw [show good (zs[m]?.getD 0) = false from decide_eq_false (by omega), Bool.and_false] | rw [show good (zs[m]?.getD 0) = true from decide_eq_true (by omega), Bool.and_true]⟩
            case measure => simp [intOf]; omega
        · obtain rfl : m = k := by omega
          have ht : zs.take m = zs := List.take_of_length_le (by have := HL.out; omega)
          rw [ht]
          clear ht
          go_wp2_with fail
          refine (decimal_any _ _ (by rw [strOfNums_size]; simp [HL.out, maxLen]; omega)).mono ?_
          rintro e w' ⟨rfl, rfl⟩
          have hd := okAll_pool zs
          rw [hd]
          clear hd
          go_wp2
          go_ret
          exact ⟨ret_bool (by simp), HB.out⟩
end Go.Proofs.Ybulkdsty
