/-
  No cell of these rows narrows 'for every input' (looked for: loops, veiled, ifaces, maps, wideKeys, modest, calm, conditions, laid).
  DERIVED. THE GIVEN ROWS OF THIS SEAT. 1 by the template 'for every input the law returns true; each argument reads behind the call as it read before'; 0 by the template 'total and deterministic' (their statements: YbulkacjcTotals.lean).
  GIVEN WITH THE SEED: the statements are not yours to turn. If you find one false, say at which input.
  Laid BY PROGRAM, IN A SANDBOX (cutbox-rows.mjs): the forced cells as the released guide's own fill.sh prints them over the translation e3a4ffac6d38b91f… (all of the seat's roots in one cut). By AI agents, Wed Nov 11 2026. No macro, syntax, notation, axiom, sorry.
-/
import Derived.Test.YbulkacjcChecked
import GoSem.Claim
import GoSem.ClaimJoined
import GoSem.ClaimMapViews
import Derived.JoinedTies
import Derived.KernelRfl
namespace Go.Proofs.Ybulkacjc
/- THE CELL 'sum', in the pinned program and in every row, IS THE sha256 OF THE DUMP (.gsa) THAT YbulkacjcProg.lean LOADS. Nothing in Lean hashes anything: it is a label: what it is worth is what the hold of that sum in a sandbox is worth. -/
noncomputable def Yba.pinned : Pinned := { name := "ybulkacjc", sum := "e3a4ffac6d38b91f8095b3a7be9e46d9a0e5f46146272c43f90c404e7126e1f2", checked := Yba.checked }
namespace Rows
def none {H : Type} : Left H := { results := [], args := [] }

/-- 'sim.LawS1419BEffect': WHATEVER THE INPUT: true; the input reads as it did. -/
def lawS1419BEffectSpec : ChangeSpec := { name := "lawS1419BEffect", fn := fun _ => fun
  | [d1, d2, d3, d4, d5, d6] => { results := [.lit (.bool true)], args := [d1, d2, d3, d4, d5, d6] }
  | _ => none }
def lawS1419BEffectRow : OpenClaim := { program := "ybulkacjc", sum := "e3a4ffac6d38b91f8095b3a7be9e46d9a0e5f46146272c43f90c404e7126e1f2", func := "example.com/cuyahoga/cuyahoga/sim.LawS1419BEffect", spec := "lawS1419BEffect", apart := false }
def LawS1419BEffectSaid : Prop := lawS1419BEffectRow.holds Yba.pinned (OpenSpec.ofChange lawS1419BEffectSpec)

/-- ITS FALSE NEIGHBOUR: 'it returns false'. Refute it at one input. -/
def lawS1419BEffectWrong : ChangeSpec := { name := "lawS1419BEffect", fn := fun _ => fun
  | [d1, d2, d3, d4, d5, d6] => { results := [.lit (.bool false)], args := [d1, d2, d3, d4, d5, d6] }
  | _ => none }
def LawS1419BEffectWrongFalsely : Prop := lawS1419BEffectRow.holds Yba.pinned (OpenSpec.ofChange lawS1419BEffectWrong)

end Rows
end Go.Proofs.Ybulkacjc
