/-
  No cell of these rows narrows 'for every input' (looked for: loops, veiled, ifaces, maps, wideKeys, modest, calm, conditions, laid).
  DERIVED. THE GIVEN ROWS OF THIS SEAT. 2 by the template 'for every input the law returns true; each argument reads behind the call as it read before'; 0 by the template 'total and deterministic' (their statements: YbulkaciaTotals.lean).
  GIVEN WITH THE SEED: the statements are not yours to turn. If you find one false, say at which input.
  Laid BY PROGRAM, IN A SANDBOX (cutbox-rows.mjs): the forced cells as the released guide's own fill.sh prints them over the translation 35af72030a9150ff… (all of the seat's roots in one cut). By AI agents, Wed Nov 11 2026. No macro, syntax, notation, axiom, sorry.
-/
import Derived.Test.YbulkaciaChecked
import GoSem.Claim
import GoSem.ClaimJoined
import GoSem.ClaimMapViews
import Derived.JoinedTies
import Derived.KernelRfl
namespace Go.Proofs.Ybulkacia
/- THE CELL 'sum', in the pinned program and in every row, IS THE sha256 OF THE DUMP (.gsa) THAT YbulkaciaProg.lean LOADS. Nothing in Lean hashes anything: it is a label: what it is worth is what the hold of that sum in a sandbox is worth. -/
noncomputable def Yba.pinned : Pinned := { name := "ybulkacia", sum := "35af72030a9150ffcd9f252aae4f249fe9e7725b32c138ae0b1fa4d2938452e5", checked := Yba.checked }
namespace Rows
def none {H : Type} : Left H := { results := [], args := [] }

/-- 'evenkeel.LawS1417AExact': WHATEVER THE INPUT: true; the input reads as it did. -/
def lawS1417AExactSpec : ChangeSpec := { name := "lawS1417AExact", fn := fun _ => fun
  | [d1, d2, d3, d4] => { results := [.lit (.bool true)], args := [d1, d2, d3, d4] }
  | _ => none }
def lawS1417AExactRow : OpenClaim := { program := "ybulkacia", sum := "35af72030a9150ffcd9f252aae4f249fe9e7725b32c138ae0b1fa4d2938452e5", func := "example.com/evenkeel/evenkeel.LawS1417AExact", spec := "lawS1417AExact", inPlace := ["math.Float64bits", "math.Float64frombits"], apart := false }
def LawS1417AExactSaid : Prop := lawS1417AExactRow.holds Yba.pinned (OpenSpec.ofChange lawS1417AExactSpec)

/-- ITS FALSE NEIGHBOUR: 'it returns false'. Refute it at one input. -/
def lawS1417AExactWrong : ChangeSpec := { name := "lawS1417AExact", fn := fun _ => fun
  | [d1, d2, d3, d4] => { results := [.lit (.bool false)], args := [d1, d2, d3, d4] }
  | _ => none }
def LawS1417AExactWrongFalsely : Prop := lawS1417AExactRow.holds Yba.pinned (OpenSpec.ofChange lawS1417AExactWrong)

/-- 'coordinator.LawS1417CPicks': WHATEVER THE INPUT: true; the input reads as it did. -/
def lawS1417CPicksSpec : ChangeSpec := { name := "lawS1417CPicks", fn := fun _ => fun
  | [d1, d2, d3, d4, d5, d6, d7] => { results := [.lit (.bool true)], args := [d1, d2, d3, d4, d5, d6, d7] }
  | _ => none }
def lawS1417CPicksRow : OpenClaim := { program := "ybulkacia", sum := "35af72030a9150ffcd9f252aae4f249fe9e7725b32c138ae0b1fa4d2938452e5", func := "example.com/evenkeel/evenkeel/coordinator.LawS1417CPicks", spec := "lawS1417CPicks", apart := false }
def LawS1417CPicksSaid : Prop := lawS1417CPicksRow.holds Yba.pinned (OpenSpec.ofChange lawS1417CPicksSpec)

/-- ITS FALSE NEIGHBOUR: 'it returns false'. Refute it at one input. -/
def lawS1417CPicksWrong : ChangeSpec := { name := "lawS1417CPicks", fn := fun _ => fun
  | [d1, d2, d3, d4, d5, d6, d7] => { results := [.lit (.bool false)], args := [d1, d2, d3, d4, d5, d6, d7] }
  | _ => none }
def LawS1417CPicksWrongFalsely : Prop := lawS1417CPicksRow.holds Yba.pinned (OpenSpec.ofChange lawS1417CPicksWrong)

end Rows
end Go.Proofs.Ybulkacia
