/-
  No cell of these rows narrows 'for every input' (looked for: loops, veiled, ifaces, maps, wideKeys, modest, calm, conditions, laid).
  DERIVED. THE GIVEN ROWS OF THIS SEAT. 4 by the template 'for every input the law returns true; each argument reads behind the call as it read before'; 0 by the template 'total and deterministic' (their statements: YbulkdstyTotals.lean).
  GIVEN WITH THE SEED: the statements are not yours to turn. If you find one false, say at which input.
  Laid BY PROGRAM, IN A SANDBOX (cutbox-rows.mjs): the forced cells as the released guide's own fill.sh prints them over the translation 2384c1d1ecbf23dc… (all of the seat's roots in one cut). By AI agents, Wed Nov 11 2026. No macro, syntax, notation, axiom, sorry.
-/
import Derived.Test.YbulkdstyChecked
import GoSem.Claim
import GoSem.ClaimJoined
import GoSem.ClaimMapViews
import Derived.JoinedTies
import Derived.KernelRfl
namespace Go.Proofs.Ybulkdsty
/- THE CELL 'sum', in the pinned program and in every row, IS THE sha256 OF THE DUMP (.gsa) THAT YbulkdstyProg.lean LOADS. Nothing in Lean hashes anything: it is a label: what it is worth is what the hold of that sum in a sandbox is worth. -/
noncomputable def Yba.pinned : Pinned := { name := "ybulkdsty", sum := "2384c1d1ecbf23dcec7549549b59b67a609397d0e989fc3d0f64192d10543821", checked := Yba.checked }
namespace Rows
def none {H : Type} : Left H := { results := [], args := [] }

/-- 'ephemerion.LawS5978AWhole': WHATEVER THE INPUT: true; the input reads as it did. -/
def lawS5978AWholeSpec : ChangeSpec := { name := "lawS5978AWhole", fn := fun _ => fun
  | [d1, d2, d3, d4, d5, d6, d7, d8, d9] => { results := [.lit (.bool true)], args := [d1, d2, d3, d4, d5, d6, d7, d8, d9] }
  | _ => none }
def lawS5978AWholeRow : OpenClaim := { program := "ybulkdsty", sum := "2384c1d1ecbf23dcec7549549b59b67a609397d0e989fc3d0f64192d10543821", func := "example.com/ephemerion/ephemerion.LawS5978AWhole", spec := "lawS5978AWhole", inPlace := ["math.Float64bits"], apart := false }
def LawS5978AWholeSaid : Prop := lawS5978AWholeRow.holds Yba.pinned (OpenSpec.ofChange lawS5978AWholeSpec)

/-- ITS FALSE NEIGHBOUR: 'it returns false'. Refute it at one input. -/
def lawS5978AWholeWrong : ChangeSpec := { name := "lawS5978AWhole", fn := fun _ => fun
  | [d1, d2, d3, d4, d5, d6, d7, d8, d9] => { results := [.lit (.bool false)], args := [d1, d2, d3, d4, d5, d6, d7, d8, d9] }
  | _ => none }
def LawS5978AWholeWrongFalsely : Prop := lawS5978AWholeRow.holds Yba.pinned (OpenSpec.ofChange lawS5978AWholeWrong)

/-- 'ephemerion.LawS5978BWhole': WHATEVER THE INPUT: true; the input reads as it did. -/
def lawS5978BWholeSpec : ChangeSpec := { name := "lawS5978BWhole", fn := fun _ => fun
  | [d] => { results := [.lit (.bool true)], args := [d] }
  | _ => none }
def lawS5978BWholeRow : OpenClaim := { program := "ybulkdsty", sum := "2384c1d1ecbf23dcec7549549b59b67a609397d0e989fc3d0f64192d10543821", func := "example.com/ephemerion/ephemerion.LawS5978BWhole", spec := "lawS5978BWhole", apart := false }
def LawS5978BWholeSaid : Prop := lawS5978BWholeRow.holds Yba.pinned (OpenSpec.ofChange lawS5978BWholeSpec)

/-- ITS FALSE NEIGHBOUR: 'it returns false'. Refute it at one input. -/
def lawS5978BWholeWrong : ChangeSpec := { name := "lawS5978BWhole", fn := fun _ => fun
  | [d] => { results := [.lit (.bool false)], args := [d] }
  | _ => none }
def LawS5978BWholeWrongFalsely : Prop := lawS5978BWholeRow.holds Yba.pinned (OpenSpec.ofChange lawS5978BWholeWrong)

/-- 'ephemerion.LawS5978BBuilt': WHATEVER THE INPUT: true; the input reads as it did. -/
def lawS5978BBuiltSpec : ChangeSpec := { name := "lawS5978BBuilt", fn := fun _ => fun
  | [d] => { results := [.lit (.bool true)], args := [d] }
  | _ => none }
def lawS5978BBuiltRow : OpenClaim := { program := "ybulkdsty", sum := "2384c1d1ecbf23dcec7549549b59b67a609397d0e989fc3d0f64192d10543821", func := "example.com/ephemerion/ephemerion.LawS5978BBuilt", spec := "lawS5978BBuilt", apart := false }
def LawS5978BBuiltSaid : Prop := lawS5978BBuiltRow.holds Yba.pinned (OpenSpec.ofChange lawS5978BBuiltSpec)

/-- ITS FALSE NEIGHBOUR: 'it returns false'. Refute it at one input. -/
def lawS5978BBuiltWrong : ChangeSpec := { name := "lawS5978BBuilt", fn := fun _ => fun
  | [d] => { results := [.lit (.bool false)], args := [d] }
  | _ => none }
def LawS5978BBuiltWrongFalsely : Prop := lawS5978BBuiltRow.holds Yba.pinned (OpenSpec.ofChange lawS5978BBuiltWrong)

/-- 'ephemerion.LawS5978CWhole': WHATEVER THE INPUT: true; the input reads as it did. -/
def lawS5978CWholeSpec : ChangeSpec := { name := "lawS5978CWhole", fn := fun _ => fun
  | [d1, d2, d3, d4, d5, d6, d7, d8] => { results := [.lit (.bool true)], args := [d1, d2, d3, d4, d5, d6, d7, d8] }
  | _ => none }
def lawS5978CWholeRow : OpenClaim := { program := "ybulkdsty", sum := "2384c1d1ecbf23dcec7549549b59b67a609397d0e989fc3d0f64192d10543821", func := "example.com/ephemerion/ephemerion.LawS5978CWhole", spec := "lawS5978CWhole", inPlace := ["math.Float64bits"], apart := false }
def LawS5978CWholeSaid : Prop := lawS5978CWholeRow.holds Yba.pinned (OpenSpec.ofChange lawS5978CWholeSpec)

/-- ITS FALSE NEIGHBOUR: 'it returns false'. Refute it at one input. -/
def lawS5978CWholeWrong : ChangeSpec := { name := "lawS5978CWhole", fn := fun _ => fun
  | [d1, d2, d3, d4, d5, d6, d7, d8] => { results := [.lit (.bool false)], args := [d1, d2, d3, d4, d5, d6, d7, d8] }
  | _ => none }
def LawS5978CWholeWrongFalsely : Prop := lawS5978CWholeRow.holds Yba.pinned (OpenSpec.ofChange lawS5978CWholeWrong)

end Rows
end Go.Proofs.Ybulkdsty
