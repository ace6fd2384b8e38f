import Derived.Test.YbulkdsruGreatDoorT4
namespace Go.Proofs.YbulkdsruGreatDoor
open Go.RowKit Go.Op
set_option linter.unusedVariables false
set_option linter.unusedSimpArgs false
set_option maxRecDepth 100000 in
set_option maxHeartbeats 4000000 in
theorem law_any (w0 : World) (ci cp p : Nat) (byes avg dp dn dw first fs : Int) (lv : Bool) (ai ap : Option Addr) (li : List IM) (l : List IP) (hav0 : 0 ≤ avg) (hav1 : avg ≤ 65535) (hp : p ≤ 255) (hby : i64ok byes) (hdp : i64ok dp) (hdn : i64ok dn) (hdw : i64ok dw) (hf0 : 0 ≤ first) (hf1 : first ≤ 255) (hfs : u32ok fs) (hM : RowM w0 ai li) (hP : RowP w0 ap l) :
    Calls Ybaz.prog 3 #[.bool lv, .int .i64 byes, .int .u16 avg, .int .u8 (p : Nat), .int .i64 dp, .int .i64 dn, .int .i64 dw, .slice ai li.length ci, .int .u8 first, .int .u32 fs, .slice ap l.length cp] w0 fun e w' => e = .returned (.bool true) ∧ Below w0.heap.size w0 w' := by
  have HI : Hid ((0 ≤ avg ∧ avg ≤ 65535) ∧ p ≤ 255 ∧ i64ok byes ∧ i64ok dp ∧ i64ok dn ∧ i64ok dw) := ⟨⟨hav0, hav1⟩, hp, hby, hdp, hdn, hdw⟩
  have HF : Hid ((0 ≤ first ∧ first ≤ 255) ∧ u32ok fs) := ⟨⟨hf0, hf1⟩, hfs⟩
  have HM : Hid (RowM w0 ai li ∧ RowP w0 ap l) := ⟨hM, hP⟩
  clear hav0 hav1 hp hby hdp hdn hdw hf0 hf1 hfs hM hP
  go_enter Ybaz.func3, Ybaz.ntmps3
  by_cases h1 : 1024 < li.length
  · have g1 : (1024 : Int) < ((li.length : Nat) : Int) := by omega
    clear h1
    go_wp2_with fail
    go_ret
    exact ⟨rfl, Below.refl _ _⟩
  by_cases h2 : 1024 < l.length
  · have g1 : ¬ (1024 : Int) < ((li.length : Nat) : Int) := by omega
    have g2 : (1024 : Int) < ((l.length : Nat) : Int) := by omega
    clear h1 h2
    go_wp2_with fail
    go_ret
    exact ⟨rfl, Below.refl _ _⟩
  have HL : Hid (li.length ≤ 1024 ∧ l.length ≤ 1024) := ⟨by omega, by omega⟩
  have g1 : ¬ (1024 : Int) < ((li.length : Nat) : Int) := by omega
  have g2 : ¬ (1024 : Int) < ((l.length : Nat) : Int) := by omega
  clear h1 h2
  go_upto_block 0 with fail
  rename_i Q1 K1 hK1
  refine loop1 ap cp l w0 HM.out.2 HL.out.2 _ _ ?_
  intro _ _ _ _ _ _ _ _ _ _ _ _ _ _ _ _ W1 hb1
  refine hK1 _ _ ?_
  exact tail4 w0 ci cp p byes avg dp dn dw first fs lv ai ap li l W1 HI.out.1.1 HI.out.1.2 HI.out.2.1 HI.out.2.2.1 HI.out.2.2.2.1 HI.out.2.2.2.2.1 HI.out.2.2.2.2.2 HF.out.1.1 HF.out.1.2 HF.out.2 HM.out.1 HL.out.1 HM.out.2 HL.out.2 hb1
end Go.Proofs.YbulkdsruGreatDoor
