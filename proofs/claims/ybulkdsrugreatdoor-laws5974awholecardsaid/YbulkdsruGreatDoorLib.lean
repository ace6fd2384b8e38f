import Derived.Test.YbulkdsruGreatDoorApp
import Derived.Test.YbulkdsruGreatDoorSt
import Derived.Lib.SliceRun
import Derived.Laws.BytesArg
import Derived.Laws.Externs
import Derived.Shelf.SlMaps.Clone
namespace Go.Proofs.YbulkdsruGreatDoor
open Go.RowKit Go.Op
set_option linter.unusedVariables false
set_option linter.unusedSimpArgs false

/-- A row of octets of the call's own. -/
def own8 (w : World) (base g n cap : Nat) (bs : List Int) : Prop := w.ownsRow base 5 1 (.slice (some ⟨g, 0, none⟩) n cap) n (u8s bs) ∧ n = bs.length

theorem own8_row {w : World} {base g n cap : Nat} {bs : List Int} (h : own8 w base g n cap bs) : Row w g 0 bs := by
  intro i v hv
  have hi : i < bs.length := (List.getElem?_eq_some_iff.1 hv).1
  have := h.1.cellAt i (by have := h.2; omega)
  rw [Nat.zero_add, this]
  simp [u8s, hv]

set_option maxRecDepth 8000 in
set_option maxHeartbeats 1000000 in
theorem bclone_any (base g n cap : Nat) (bs : List Int) (w : World) (h : own8 w base g n cap bs) (hl : bs.length ≤ 10000000) (hpos : 0 < bs.length) :
    Calls Ybaz.prog 6 #[.slice (some ⟨g, 0, none⟩) n cap] w fun e w' => ∃ g' cap', e = .returned (.slice (some ⟨g', 0, none⟩) n cap') ∧ own8 w' w.heap.size g' n cap' bs ∧ Below w.heap.size w w' := by
  obtain ⟨i, hi, hz0, hz1, hz2⟩ := info_parts info5
  have hnb := h.2
  have q30 : ∀ (w : World) (a : Addr) (n c : Nat), (binOp .eql 30 (.slice (some a) n c) (.slice none 0 0)).run Ybaz.prog w = .ok (.bool false) w := fun w a n c => Lib.run_eql_slice_nil w 30 5 (some a) n c 0 0 Ybaz.underlying30
  have HR : Hid _ := own8_row h
  have hown0 : Hid ((w.alloc (.cells #[] 5)).ownsRow w.heap.size 5 1 (.slice (some ⟨w.heap.size, 0, none⟩) 0 0) 0 []) := ⟨rfl, .inr ⟨w.heap.size, 0, #[], rfl, Nat.le_refl _, (MapKept.heap_alloc w _).1, Nat.le_refl _, Nat.zero_le _, rfl, rfl⟩⟩
  have hg : g < w.heap.size := by
    rcases h.1.2 with ⟨hh, _⟩ | ⟨g1, c1, cur, hv, _, hg1, _⟩
    · cases hh
    · cases hv; exact (Array.getElem?_eq_some_iff.1 hg1).1
  have hnews : Hid (∀ j u, (u8s bs)[j]? = some u → (w.alloc (.cells #[] 5)).cell? ((⟨g, 0, none⟩ : Addr).add j) = some u) := by
    intro j u hu
    have hadd : (⟨g, 0, none⟩ : Addr).add j = ⟨g, j, none⟩ := by unfold Addr.add; split <;> simp_all
    rw [hadd]
    simp only [u8s, List.getElem?_map, Option.map_eq_some_iff] at hu
    obtain ⟨v, hv, rfl⟩ := hu
    have := HR.out j v hv
    rw [Nat.zero_add] at this
    exact (((Below.refl _ w).alloc (Nat.le_refl _) _).cell (p := ⟨g, j, none⟩) hg).trans this
  have hmx : 0 + n ≤ maxLen := Nat.le_trans (show 0 + n ≤ 10000000 by omega) (by decide)
  have HN : Hid (n = bs.length) := hnb
  have HG : Hid (g < w.heap.size) := hg
  clear h hnb hg
  go_enter Ybaz.func6, Ybaz.ntmps6
  go_wp2_with (at_builtin; refine wpList_append_own _ rfl _ _ 30 rfl w.heap.size 5 i (.int .u8 0) 1 1 Ybaz.underlying30 hi hz0 hz1 hz2 rfl (by decide) _ 0 [] rfl hown0.out ⟨g, 0, none⟩ n cap (u8s bs) rfl (by simp [u8s, HN.out]) hnews.out (oneCell_ints _ _) hmx (by have := HN.out; omega) (by simp) ?_; intro v' w1 ho hgr hnil)
  go_ret
  have hn1 := HN.out
  obtain ⟨g', cap', rfl, hgb, hlt⟩ := ho.form (by omega)
  have e0 : 0 + n = n := by omega
  rw [e0] at ho
  refine ⟨g', cap', ?_, ⟨ho, hn1⟩, ?_⟩
  · rw [e0]; rfl
  · exact ((Below.refl _ w).alloc (Nat.le_refl _) _).trans ((Below.refl _ _).grown hgr (by simp) (fun k hk => by cases hk; exact Nat.le_refl _))

set_option maxRecDepth 8000 in
set_option maxHeartbeats 1000000 in
theorem bequal_any (g n cap g' cap' : Nat) (bs : List Int) (w : World) (h1 : Row w g 0 bs) (h2 : Row w g' 0 bs) (hn : n = bs.length) :
    Calls Ybaz.prog 10 #[.slice (some ⟨g, 0, none⟩) n cap, .slice (some ⟨g', 0, none⟩) n cap'] w fun e w' => e = .returned (.bool true) ∧ w' = w := by
  have c1 := run_convert_bytes_arg w 30 5 Ybaz.underlying30 Ybaz.underlying5 g 0 n cap bs hn.symm (fun i hi => h1 i _ (by simp [List.getD, List.getElem?_eq_getElem (show i < bs.length by omega)])) 9 Ybaz.underlying9
  have c2 := run_convert_bytes_arg w 30 5 Ybaz.underlying30 Ybaz.underlying5 g' 0 n cap' bs hn.symm (fun i hi => h2 i _ (by simp [List.getD, List.getElem?_eq_getElem (show i < bs.length by omega)])) 9 Ybaz.underlying9
  clear h1 h2 hn
  go_enter Ybaz.func10, Ybaz.ntmps10
  go_wp2_with fail
  go_ret
  exact ⟨rfl, rfl⟩

set_option maxRecDepth 8000 in
set_option maxHeartbeats 1000000 in
theorem mclone_raw (b : Nat) (es : Array MapEntry) (clock : Nat) (w : World) (hb : w.heap[b]? = some (.map es clock)) :
    Calls Ybaz.prog 8 #[.map (some b)] w fun e w' => e = .returned (.map (some w.heap.size)) ∧ w' = w.alloc (.map es clock) := by
  have hq := fun w => run_eql_map_nil_sl (P := Ybaz.prog) w 41 _ _ (some b) Ybaz.underlying41
  go_enter Ybaz.func8, Ybaz.ntmps8
  go_wp2_with fail
  rw [run_callFunc_extern Ybaz.func18 (by kernel_rfl) (by kernel_rfl) (by kernel_rfl) (e := Extern.MapsClone.clone) (by kernel_rfl), run_maps_clone_sl w 41 hb]
  simp only [Result.andThen]
  rw [Oper.upon_value]
  go_wp2_with fail
  rw [run_typeAssert_map_sl _ 41 20 _ _ _ Ybaz.underlying41]
  simp only [Result.andThen]
  rw [Oper.upon_value]
  go_wp2_with fail
  go_ret
  exact ⟨rfl, rfl⟩

theorem mclone_any (b n c : Nat) (f : Int → Option Value) (w : World) (h : mp w b n c f) :
    Calls Ybaz.prog 8 #[.map (some b)] w fun e w' => e = .returned (.map (some w.heap.size)) ∧ mp w' w.heap.size n c f ∧ Below w.heap.size w w' := by
  obtain ⟨D, ⟨es, clock, hb, r⟩, h1, h2⟩ := h
  refine (mclone_raw b es clock w hb).mono ?_
  rintro e w' ⟨rfl, rfl⟩
  exact ⟨rfl, ⟨D, ⟨es, clock, (MapKept.heap_alloc w _).1, r⟩, h1, h2⟩, (Below.refl _ w).alloc (Nat.le_refl _) _⟩
end Go.Proofs.YbulkdsruGreatDoor
