/-
  DERIVED. GIVEN WITH THE SEED: THE CARDS: each row of YbulkdswqDoorRows.lean that lists a variable, with what it lists TIED to the program's text (the seventh form; the later family's looks); each row that meets fmt, with fmt's text TOLD by the authors' own Lean function (tested against real Go, not proved from fmt's source: count such statements apart). THE CARD IS WHAT COUNTS. Prove the row's statement (the work); the ties are given (YbulkdswqDoorTie.lean); close each card by the builder's one call (the guide's Derived/Test/ToyasCard.lean, 'card_holds'). Laid BY PROGRAM, IN A SANDBOX (cutbox-door.mjs). By AI agents, Wed Nov 11 2026. No macro, syntax, notation, axiom, sorry.
-/
import Derived.Test.YbulkdswqDoorRows
import GoSem.ClaimSeven
namespace Go.Proofs.YbulkdswqDoor
namespace Rows

/-- THE TIED CARD OF 'moon.LawS5983BWhole'. -/
def lawS5983BWholeCard : Claim7 := { stood := { row := lawS5983BWholeRow, standIns := [], harness := (true, "0121d980f8210ee520e98059bcb124c82347187c48b5657b8c592f174c7fef5d"), looks := false }, kinds := [], alts := [], laidByText := true, laidKinds := [.wider], laidTests := true, laidLooks := .later }
def LawS5983BWholeCardSaid : Prop := Claim7.holds Ybad.pinned (.plain (OpenSpec.ofChange lawS5983BWholeSpec)) lawS5983BWholeCard

/-- THE TIED CARD OF 'events.LawS5983CWhole'. -/
def lawS5983CWholeCard : Claim7 := { stood := { row := lawS5983CWholeRow, standIns := [], harness := (true, "0121d980f8210ee520e98059bcb124c82347187c48b5657b8c592f174c7fef5d"), looks := false }, kinds := [], alts := [], laidByText := true, laidKinds := [.data, .data, .data], laidTests := true, laidLooks := .later }
def LawS5983CWholeCardSaid : Prop := Claim7.holds Ybad.pinned (.plain (OpenSpec.ofChange lawS5983CWholeSpec)) lawS5983CWholeCard
end Rows
end Go.Proofs.YbulkdswqDoor
