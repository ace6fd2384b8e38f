/-
  No cell of these rows narrows 'for every input' (looked for: loops, veiled, ifaces, maps, wideKeys, modest, calm, conditions, laid).
  DERIVED. THE GIVEN ROWS OF THIS SEAT. 1 by the template 'for every input the law returns true; each argument reads behind the call as it read before'; 0 by the template 'total and deterministic' (their statements: YbulkdsruTotals.lean).
  GIVEN WITH THE SEED: the statements are not yours to turn. If you find one false, say at which input.
  Laid BY PROGRAM, IN A SANDBOX (cutbox-rows.mjs): the forced cells as the released guide's own fill.sh prints them over the translation 25f8006a35745b8d… (all of the seat's roots in one cut). By AI agents, Wed Nov 11 2026. No macro, syntax, notation, axiom, sorry.
-/
import Derived.Test.YbulkdsruChecked
import GoSem.Claim
import GoSem.ClaimJoined
import GoSem.ClaimMapViews
import Derived.JoinedTies
import Derived.KernelRfl
namespace Go.Proofs.Ybulkdsru
/- THE CELL 'sum', in the pinned program and in every row, IS THE sha256 OF THE DUMP (.gsa) THAT YbulkdsruProg.lean LOADS. Nothing in Lean hashes anything: it is a label: what it is worth is what the hold of that sum in a sandbox is worth. -/
noncomputable def Yba.pinned : Pinned := { name := "ybulkdsru", sum := "25f8006a35745b8d6d8f56255e88826909b545d401a4187b6112ae0c79f931b2", checked := Yba.checked }
namespace Rows
def none {H : Type} : Left H := { results := [], args := [] }

/-- 'rtcp.LawS5974CWhole': WHATEVER THE INPUT: true; the input reads as it did. -/
def lawS5974CWholeSpec : ChangeSpec := { name := "lawS5974CWhole", fn := fun _ => fun
  | [d1, d2, d3] => { results := [.lit (.bool true)], args := [d1, d2, d3] }
  | _ => none }
def lawS5974CWholeRow : OpenClaim := { program := "ybulkdsru", sum := "25f8006a35745b8d6d8f56255e88826909b545d401a4187b6112ae0c79f931b2", func := "example.com/rapporteur/rapporteur/rtcp.LawS5974CWhole", spec := "lawS5974CWhole", apart := false }
def LawS5974CWholeSaid : Prop := lawS5974CWholeRow.holds Yba.pinned (OpenSpec.ofChange lawS5974CWholeSpec)

/-- ITS FALSE NEIGHBOUR: 'it returns false'. Refute it at one input. -/
def lawS5974CWholeWrong : ChangeSpec := { name := "lawS5974CWhole", fn := fun _ => fun
  | [d1, d2, d3] => { results := [.lit (.bool false)], args := [d1, d2, d3] }
  | _ => none }
def LawS5974CWholeWrongFalsely : Prop := lawS5974CWholeRow.holds Yba.pinned (OpenSpec.ofChange lawS5974CWholeWrong)

end Rows
end Go.Proofs.Ybulkdsru
