/-
  No cell of these rows narrows 'for every input' (looked for: loops, veiled, ifaces, maps, wideKeys, modest, calm, conditions, laid).
  DERIVED. THE GIVEN ROWS OF THIS SEAT. 1 by the template 'for every input the law returns true; each argument reads behind the call as it read before'; 0 by the template 'total and deterministic' (their statements: YbulkacksTotals.lean).
  GIVEN WITH THE SEED: the statements are not yours to turn. If you find one false, say at which input.
  Laid BY PROGRAM, IN A SANDBOX (cutbox-rows.mjs): the forced cells as the released guide's own fill.sh prints them over the translation 53ae3b42997a1a88… (all of the seat's roots in one cut). By AI agents, Wed Nov 11 2026. No macro, syntax, notation, axiom, sorry.
-/
import Derived.Test.YbulkacksChecked
import GoSem.Claim
import GoSem.ClaimJoined
import GoSem.ClaimMapViews
import Derived.JoinedTies
import Derived.KernelRfl
namespace Go.Proofs.Ybulkacks
/- THE CELL 'sum', in the pinned program and in every row, IS THE sha256 OF THE DUMP (.gsa) THAT YbulkacksProg.lean LOADS. Nothing in Lean hashes anything: it is a label: what it is worth is what the hold of that sum in a sandbox is worth. -/
noncomputable def Yba.pinned : Pinned := { name := "ybulkacks", sum := "53ae3b42997a1a8882749324030598655da7cc948d9cd6d4ba2bdd474bbe0e6d", checked := Yba.checked }
namespace Rows
def none {H : Type} : Left H := { results := [], args := [] }

/-- 'grapevine.LawS1422BQuietest': WHATEVER THE INPUT: true; the input reads as it did. -/
def lawS1422BQuietestSpec : ChangeSpec := { name := "lawS1422BQuietest", fn := fun _ => fun
  | [d] => { results := [.lit (.bool true)], args := [d] }
  | _ => none }
def lawS1422BQuietestRow : OpenClaim := { program := "ybulkacks", sum := "53ae3b42997a1a8882749324030598655da7cc948d9cd6d4ba2bdd474bbe0e6d", func := "example.com/grapevine/grapevine.LawS1422BQuietest", spec := "lawS1422BQuietest", inPlace := ["sync/atomic.StoreInt64", "sync/atomic.StoreUint32", "sync/atomic.LoadUint32", "sync/atomic.LoadInt64"], unfollowed := true, recurses := true, apart := false }
def LawS1422BQuietestSaid : Prop := lawS1422BQuietestRow.holds Yba.pinned (OpenSpec.ofChange lawS1422BQuietestSpec)

/-- ITS FALSE NEIGHBOUR: 'it returns false'. Refute it at one input. -/
def lawS1422BQuietestWrong : ChangeSpec := { name := "lawS1422BQuietest", fn := fun _ => fun
  | [d] => { results := [.lit (.bool false)], args := [d] }
  | _ => none }
def LawS1422BQuietestWrongFalsely : Prop := lawS1422BQuietestRow.holds Yba.pinned (OpenSpec.ofChange lawS1422BQuietestWrong)

end Rows
end Go.Proofs.Ybulkacks
