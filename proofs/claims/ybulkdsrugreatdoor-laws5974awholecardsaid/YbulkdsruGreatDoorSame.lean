import Derived.Test.YbulkdsruGreatDoorLib
import Derived.Test.YbulkdsruGreatDoorReco
import Derived.Deep.LoopGhost
namespace Go.Proofs.YbulkdsruGreatDoor
open Go.RowKit Go.Op
set_option linter.unusedVariables false
set_option linter.unusedSimpArgs false

theorem eqF_self (n s : Int) : eqF n s n s = true := by simp [eqF]
/-- A row of sources. -/
def Row32 (w : World) (g : Nat) (ks : List Int) : Prop := ∀ i v, ks[i]? = some v → w.cell? ⟨g, i, none⟩ = some (.int .u32 v)
theorem Row32.below {w w' : World} {B g : Nat} {l : List Int} (h : Row32 w g l) (hb : Below B w w') (hg : g < B) : Row32 w' g l := fun i v hv => (hb.cell (p := ⟨g, i, none⟩) hg).trans (h i v hv)
def MsOk (f : Ms) : Prop := ∀ k m, f k = some m → m.heard.ok ∧ m.sent.ok

set_option maxRecDepth 100000 in
set_option maxHeartbeats 2000000 in
theorem same_any (mg mw ng nw cg cw kb cap : Nat) (ks : List Int) (f : Ms) (w : World) (h1 : mp w mg ng cg (vals f)) (h2 : mp w mw nw cw (vals f)) (hok : MsOk f) (hks : Row32 w kb ks) (hkb : kb < w.heap.size) (hu : ∀ k ∈ ks, u32ok k) (hlen : ks.length ≤ 1000000) :
    Calls Ybaz.prog 12 #[.map (some mg), .map (some mw), .slice (some ⟨kb, 0, none⟩) ks.length cap] w fun e w' => e = .returned (.bool true) ∧ Below w.heap.size w w' := by
  have hcc : cg = cw := mp_size_eq h1 h2 (fun _ _ => rfl)
  subst hcc
  have l1 := fun ty => mp_len h1 Ybaz.underlying41 ty
  have l2 := fun ty => mp_len h2 Ybaz.underlying41 ty
  have H1 : Hid (mp w mg ng cg (vals f)) := h1
  have H2 : Hid (mp w mw nw cg (vals f)) := h2
  have HK : Hid (Row32 w kb ks) := hks
  have HU : Hid (∀ k ∈ ks, u32ok k) := hu
  have HOK : Hid (MsOk f) := hok
  obtain ⟨L, hL⟩ : ∃ L, ks.length = L := ⟨_, rfl⟩
  have HL : Hid (ks.length = L) := hL
  rw [hL]
  rw [hL] at hlen
  clear h1 h2 hks hu hok hL
  go_enter Ybaz.func12, Ybaz.ntmps12
  go_wp2_with fail
  go_loopg [20] L (fun m i wr => ∃ (j : Nat), j + m = L ∧ i = .int .i64 j ∧ Hid (Below w.heap.size w wr))
  case atStart => exact ⟨0, by omega, rfl, Below.refl _ _⟩
  case round =>
    obtain ⟨j, hj, rfl, hB⟩ := hrel
    by_cases hje : j = L
    · subst hje
      clear l1 l2
      go_wp2_with fail
      go_ret
      exact ⟨rfl, hB.out⟩
    · have hjl : j < ks.length := by have := HL.out; omega
      have hlt : (j : Int) < L := by omega
      have hltn : j < L := by omega
      obtain ⟨k, hk⟩ : ∃ k, ks[j] = k := ⟨_, rfl⟩
      have hku : u32ok k := hk ▸ HU.out _ (List.getElem_mem hjl)
      have kc : wr.cell? ⟨kb, j, none⟩ = some (.int .u32 k) := (HK.out.below hB.out hkb) j k (by rw [List.getElem?_eq_getElem hjl, hk])
      have E1 : IntKind.i64.wrap ((j : Int) + 1) = (j : Int) + 1 := by simp [IntKind.wrap, IntKind.bits, IntKind.signed]; omega
      have hm2 := mp_below H2.out hB.out (mp_lt H2.out)
      have hm1 := mp_below H1.out hB.out (mp_lt H1.out)
      have z1 := mp_lt hm1
      have LK2 := mp_look_ok hm2 Ybaz.underlying41 (Ybaz.zeroValue51 wr) hku
      have LK0 := fun o => mp_look_ok (mp_below hm1 ((Below.refl _ wr).alloc (Nat.le_refl _) o) z1) Ybaz.underlying41 (Ybaz.zeroValue51 (wr.alloc o)) hku
      have EV := vals_getD f k
      rw [show (vals f k).getD (.agg #[.int .u64 0, .int .i64 0, .pointer none, .int .u64 0, .int .i64 0, .pointer none, .bool false]) = memV ((f k).getD Mem.zero) from EV] at LK2
      have LK1 : ∀ o, (Instr.lookup 41 (.map (some mg)) (.int .u32 k) true).run Ybaz.prog (wr.alloc o) = .ok (.tuple #[memV ((f k).getD Mem.zero), .bool (vals f k).isSome]) (wr.alloc o) := fun o => by rw [← show (vals f k).getD (.agg #[.int .u64 0, .int .i64 0, .pointer none, .int .u64 0, .int .i64 0, .pointer none, .bool false]) = memV ((f k).getD Mem.zero) from EV]; exact LK0 o
      rw [vals_some] at LK2
      simp only [vals_some] at LK1
      have HOKK := HOK.out k
      clear LK0 EV hm1 hm2 l1 l2 z1 hku hk
      cases hfk : f k with
      | none =>
        rw [hfk] at LK2 LK1
        clear hfk HOKK
        unfold memV Mem.zero Tm.zero at LK2 LK1
        simp only [Option.getD_none, Option.isSome_none] at LK2 LK1
        go_wp2_with fail
        go_roundg (L - (j + 1))
        · exact ⟨j + 1, by omega, rfl, hB.out.trans ((((Below.refl _ wr).alloc (Nat.le_refl _) _).alloc (by simp) _).mono hB.out.size)⟩
        · omega
      | some q =>
        obtain ⟨⟨ho1, ho2⟩, ⟨ho3, ho4⟩⟩ := HOKK q hfk
        rw [hfk] at LK2 LK1
        clear hfk HOKK
        unfold memV at LK2 LK1
        simp only [Option.getD_some, Option.isSome_some] at LK2 LK1
        have HO1 : Hid _ := ho1
        have HO2 : Hid _ := ho2
        have HO3 : Hid _ := ho3
        have HO4 : Hid _ := ho4
        clear ho1 ho2 ho3 ho4
        go_wp2_with fail
        go_at_call 11
        refine (equal_any q.heard.n q.heard.s q.heard.n q.heard.s _ HO1.out HO2.out HO1.out HO2.out).mono ?_
        rw [eqF_self]
        rintro e w1 ⟨rfl, hb1⟩
        have B1 : Hid (Below (wr.heap.size + 2) ((wr.alloc (.cells #[.int .u64 q.heard.n, .int .i64 q.heard.s, .pointer none, .int .u64 q.sent.n, .int .i64 q.sent.s, .pointer none, .bool q.sender] 51)).alloc (.cells #[.int .u64 q.heard.n, .int .i64 q.heard.s, .pointer none, .int .u64 q.sent.n, .int .i64 q.sent.s, .pointer none, .bool q.sender] 51)) w1) := hb1.mono (by simp)
        clear hb1
        have a0 : w1.cell? ⟨wr.heap.size, 0, none⟩ = some (.int .u64 q.heard.n) := (B1.out.cell (p := ⟨wr.heap.size, 0, none⟩) (by simp)).trans (by simp [go_sem])
        have a1 : w1.cell? ⟨wr.heap.size, 1, none⟩ = some (.int .i64 q.heard.s) := (B1.out.cell (p := ⟨wr.heap.size, 1, none⟩) (by simp)).trans (by simp [go_sem])
        have a2 : w1.cell? ⟨wr.heap.size, 2, none⟩ = some (.pointer none) := (B1.out.cell (p := ⟨wr.heap.size, 2, none⟩) (by simp)).trans (by simp [go_sem])
        have a3 : w1.cell? ⟨wr.heap.size, 3, none⟩ = some (.int .u64 q.sent.n) := (B1.out.cell (p := ⟨wr.heap.size, 3, none⟩) (by simp)).trans (by simp [go_sem])
        have a4 : w1.cell? ⟨wr.heap.size, 4, none⟩ = some (.int .i64 q.sent.s) := (B1.out.cell (p := ⟨wr.heap.size, 4, none⟩) (by simp)).trans (by simp [go_sem])
        have a5 : w1.cell? ⟨wr.heap.size, 5, none⟩ = some (.pointer none) := (B1.out.cell (p := ⟨wr.heap.size, 5, none⟩) (by simp)).trans (by simp [go_sem])
        have a6 : w1.cell? ⟨wr.heap.size, 6, none⟩ = some (.bool q.sender) := (B1.out.cell (p := ⟨wr.heap.size, 6, none⟩) (by simp)).trans (by simp [go_sem])
        have b0 : w1.cell? ⟨wr.heap.size + 1, 0, none⟩ = some (.int .u64 q.heard.n) := (B1.out.cell (p := ⟨wr.heap.size + 1, 0, none⟩) (by simp)).trans (by simp [go_sem])
        have b1 : w1.cell? ⟨wr.heap.size + 1, 1, none⟩ = some (.int .i64 q.heard.s) := (B1.out.cell (p := ⟨wr.heap.size + 1, 1, none⟩) (by simp)).trans (by simp [go_sem])
        have b2 : w1.cell? ⟨wr.heap.size + 1, 2, none⟩ = some (.pointer none) := (B1.out.cell (p := ⟨wr.heap.size + 1, 2, none⟩) (by simp)).trans (by simp [go_sem])
        have b3 : w1.cell? ⟨wr.heap.size + 1, 3, none⟩ = some (.int .u64 q.sent.n) := (B1.out.cell (p := ⟨wr.heap.size + 1, 3, none⟩) (by simp)).trans (by simp [go_sem])
        have b4 : w1.cell? ⟨wr.heap.size + 1, 4, none⟩ = some (.int .i64 q.sent.s) := (B1.out.cell (p := ⟨wr.heap.size + 1, 4, none⟩) (by simp)).trans (by simp [go_sem])
        have b5 : w1.cell? ⟨wr.heap.size + 1, 5, none⟩ = some (.pointer none) := (B1.out.cell (p := ⟨wr.heap.size + 1, 5, none⟩) (by simp)).trans (by simp [go_sem])
        have b6 : w1.cell? ⟨wr.heap.size + 1, 6, none⟩ = some (.bool q.sender) := (B1.out.cell (p := ⟨wr.heap.size + 1, 6, none⟩) (by simp)).trans (by simp [go_sem])
        go_wp2_with fail
        go_at_call 11
        refine (equal_any q.sent.n q.sent.s q.sent.n q.sent.s _ HO3.out HO4.out HO3.out HO4.out).mono ?_
        rw [eqF_self]
        rintro e w2 ⟨rfl, hb1⟩
        have B2 : Hid (Below (wr.heap.size + 2) ((wr.alloc (.cells #[.int .u64 q.heard.n, .int .i64 q.heard.s, .pointer none, .int .u64 q.sent.n, .int .i64 q.sent.s, .pointer none, .bool q.sender] 51)).alloc (.cells #[.int .u64 q.heard.n, .int .i64 q.heard.s, .pointer none, .int .u64 q.sent.n, .int .i64 q.sent.s, .pointer none, .bool q.sender] 51)) w2) := B1.out.trans (hb1.mono (by have := B1.out.size; simp at this; omega))
        clear hb1
        clear a0 a1 a2 a3 a4 a5 a6 b0 b1 b2 b3 b4 b5 b6
        have a0 : w2.cell? ⟨wr.heap.size, 0, none⟩ = some (.int .u64 q.heard.n) := (B2.out.cell (p := ⟨wr.heap.size, 0, none⟩) (by simp)).trans (by simp [go_sem])
        have a1 : w2.cell? ⟨wr.heap.size, 1, none⟩ = some (.int .i64 q.heard.s) := (B2.out.cell (p := ⟨wr.heap.size, 1, none⟩) (by simp)).trans (by simp [go_sem])
        have a2 : w2.cell? ⟨wr.heap.size, 2, none⟩ = some (.pointer none) := (B2.out.cell (p := ⟨wr.heap.size, 2, none⟩) (by simp)).trans (by simp [go_sem])
        have a3 : w2.cell? ⟨wr.heap.size, 3, none⟩ = some (.int .u64 q.sent.n) := (B2.out.cell (p := ⟨wr.heap.size, 3, none⟩) (by simp)).trans (by simp [go_sem])
        have a4 : w2.cell? ⟨wr.heap.size, 4, none⟩ = some (.int .i64 q.sent.s) := (B2.out.cell (p := ⟨wr.heap.size, 4, none⟩) (by simp)).trans (by simp [go_sem])
        have a5 : w2.cell? ⟨wr.heap.size, 5, none⟩ = some (.pointer none) := (B2.out.cell (p := ⟨wr.heap.size, 5, none⟩) (by simp)).trans (by simp [go_sem])
        have a6 : w2.cell? ⟨wr.heap.size, 6, none⟩ = some (.bool q.sender) := (B2.out.cell (p := ⟨wr.heap.size, 6, none⟩) (by simp)).trans (by simp [go_sem])
        have b0 : w2.cell? ⟨wr.heap.size + 1, 0, none⟩ = some (.int .u64 q.heard.n) := (B2.out.cell (p := ⟨wr.heap.size + 1, 0, none⟩) (by simp)).trans (by simp [go_sem])
        have b1 : w2.cell? ⟨wr.heap.size + 1, 1, none⟩ = some (.int .i64 q.heard.s) := (B2.out.cell (p := ⟨wr.heap.size + 1, 1, none⟩) (by simp)).trans (by simp [go_sem])
        have b2 : w2.cell? ⟨wr.heap.size + 1, 2, none⟩ = some (.pointer none) := (B2.out.cell (p := ⟨wr.heap.size + 1, 2, none⟩) (by simp)).trans (by simp [go_sem])
        have b3 : w2.cell? ⟨wr.heap.size + 1, 3, none⟩ = some (.int .u64 q.sent.n) := (B2.out.cell (p := ⟨wr.heap.size + 1, 3, none⟩) (by simp)).trans (by simp [go_sem])
        have b4 : w2.cell? ⟨wr.heap.size + 1, 4, none⟩ = some (.int .i64 q.sent.s) := (B2.out.cell (p := ⟨wr.heap.size + 1, 4, none⟩) (by simp)).trans (by simp [go_sem])
        have b5 : w2.cell? ⟨wr.heap.size + 1, 5, none⟩ = some (.pointer none) := (B2.out.cell (p := ⟨wr.heap.size + 1, 5, none⟩) (by simp)).trans (by simp [go_sem])
        have b6 : w2.cell? ⟨wr.heap.size + 1, 6, none⟩ = some (.bool q.sender) := (B2.out.cell (p := ⟨wr.heap.size + 1, 6, none⟩) (by simp)).trans (by simp [go_sem])
        go_wp2_with fail
        go_roundg (L - (j + 1))
        · exact ⟨j + 1, by omega, rfl, hB.out.trans (((((Below.refl _ wr).alloc (Nat.le_refl _) _).alloc (by simp) _).mono hB.out.size).trans (B2.out.mono (by have := hB.out.size; omega)))⟩
        · omega
end Go.Proofs.YbulkdsruGreatDoor
