/-
  DERIVED. GIVEN WITH THE SEED: THE CARDS: each row of YbulkdsruGreatDoorRows.lean that lists a variable, with what it lists TIED to the program's text (the seventh form; the later family's looks); each row that meets fmt, with fmt's text TOLD by the authors' own Lean function (tested against real Go, not proved from fmt's source: count such statements apart). THE CARD IS WHAT COUNTS. Prove the row's statement (the work); the ties are given (YbulkdsruGreatDoorTie.lean); close each card by the builder's one call (the guide's Derived/Test/ToyasCard.lean, 'card_holds'). Laid BY PROGRAM, IN A SANDBOX (cutbox-door.mjs). By AI agents, Wed Nov 11 2026. No macro, syntax, notation, axiom, sorry.
-/
import Derived.Test.YbulkdsruGreatDoorRows
import GoSem.ClaimSeven
namespace Go.Proofs.YbulkdsruGreatDoor
namespace Rows

/-- THE TIED CARD OF 'timing.LawS5974AWhole'. -/
def lawS5974AWholeCard : Claim7 := { stood := { row := lawS5974AWholeRow, standIns := [], harness := (true, "01844eb5a2f306632da82588fa69fde8af6f9d50c1d108a3c670154b3e97dd28"), looks := true }, kinds := [], alts := [], laidByText := true, laidKinds := [.data, .data, .data, .widerDeep, .widerDeep], laidTests := true, laidLooks := .later }
def LawS5974AWholeCardSaid : Prop := Claim7.holds Ybaz.pinned (.plain (OpenSpec.ofChange lawS5974AWholeSpec)) lawS5974AWholeCard
end Rows
end Go.Proofs.YbulkdsruGreatDoor
