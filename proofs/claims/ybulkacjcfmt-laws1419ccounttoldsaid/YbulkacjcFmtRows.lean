/-
  No cell of these rows narrows 'for every input' (looked for: loops, veiled, ifaces, maps, wideKeys, modest, calm, conditions, laid).
  DERIVED. THE GIVEN ROWS OF THIS SEAT. 2 by the template 'for every input the law returns true; each argument reads behind the call as it read before'; 0 by the template 'total and deterministic' (their statements: YbulkacjcFmtTotals.lean).
  GIVEN WITH THE SEED: the statements are not yours to turn. If you find one false, say at which input.
  Laid BY PROGRAM, IN A SANDBOX (cutbox-rows.mjs): the forced cells as the released guide's own fill.sh prints them over the translation 3fc9d02e79225c64… (all of the seat's roots in one cut). By AI agents, Wed Nov 11 2026. No macro, syntax, notation, axiom, sorry.
-/
import Derived.Test.YbulkacjcFmtChecked
import GoSem.Claim
import GoSem.ClaimJoined
import GoSem.ClaimMapViews
import Derived.JoinedTies
import Derived.KernelRfl
namespace Go.Proofs.YbulkacjcFmt
/- THE CELL 'sum', in the pinned program and in every row, IS THE sha256 OF THE DUMP (.gsa) THAT YbulkacjcFmtProg.lean LOADS. Nothing in Lean hashes anything: it is a label: what it is worth is what the hold of that sum in a sandbox is worth. -/
noncomputable def Ybaf.pinned : Pinned := { name := "ybulkacjcfmt", sum := "3fc9d02e79225c64447a021d3350249fce9b60f97628da26c99a522cf1f471b2", checked := Ybaf.checked }
namespace Rows
def none {H : Type} : Left H := { results := [], args := [] }

/-- 'sim.LawS1419CCount': WHATEVER THE INPUT: true; the input reads as it did. -/
def lawS1419CCountSpec : ChangeSpec := { name := "lawS1419CCount", fn := fun _ => fun
  | [d1, d2, d3, d4, d5, d6] => { results := [.lit (.bool true)], args := [d1, d2, d3, d4, d5, d6] }
  | _ => none }
def lawS1419CCountRow : OpenClaim := { program := "ybulkacjcfmt", sum := "3fc9d02e79225c64447a021d3350249fce9b60f97628da26c99a522cf1f471b2", func := "example.com/cuyahoga/cuyahoga/sim.LawS1419CCount", spec := "lawS1419CCount", stops := ["fmt.Sprintf"], inPlace := ["fmt.Sprintf"], apart := false }
/-- NO THEOREM (fmt's text is open here; it may be false): for the released tool's asking of the row's closed facts alone. THE STATEMENT IS 'LawS1419CCountToldSaid' (YbulkacjcFmtCards.lean). -/
def LawS1419CCountFormAsk : Prop := lawS1419CCountRow.holds Ybaf.pinned (OpenSpec.ofChange lawS1419CCountSpec)

/-- ITS FALSE NEIGHBOUR: 'it returns false'. Refute it at one input. -/
def lawS1419CCountWrong : ChangeSpec := { name := "lawS1419CCount", fn := fun _ => fun
  | [d1, d2, d3, d4, d5, d6] => { results := [.lit (.bool false)], args := [d1, d2, d3, d4, d5, d6] }
  | _ => none }
def LawS1419CCountWrongFormAsk : Prop := lawS1419CCountRow.holds Ybaf.pinned (OpenSpec.ofChange lawS1419CCountWrong)

/-- 'sim.LawS1419CFailure': WHATEVER THE INPUT: true; the input reads as it did. -/
def lawS1419CFailureSpec : ChangeSpec := { name := "lawS1419CFailure", fn := fun _ => fun
  | [d1, d2, d3, d4, d5, d6] => { results := [.lit (.bool true)], args := [d1, d2, d3, d4, d5, d6] }
  | _ => none }
def lawS1419CFailureRow : OpenClaim := { program := "ybulkacjcfmt", sum := "3fc9d02e79225c64447a021d3350249fce9b60f97628da26c99a522cf1f471b2", func := "example.com/cuyahoga/cuyahoga/sim.LawS1419CFailure", spec := "lawS1419CFailure", stops := ["fmt.Sprintf"], inPlace := ["fmt.Sprintf"], apart := false }
/-- NO THEOREM (fmt's text is open here; it may be false): for the released tool's asking of the row's closed facts alone. THE STATEMENT IS 'LawS1419CFailureToldSaid' (YbulkacjcFmtCards.lean). -/
def LawS1419CFailureFormAsk : Prop := lawS1419CFailureRow.holds Ybaf.pinned (OpenSpec.ofChange lawS1419CFailureSpec)

/-- ITS FALSE NEIGHBOUR: 'it returns false'. Refute it at one input. -/
def lawS1419CFailureWrong : ChangeSpec := { name := "lawS1419CFailure", fn := fun _ => fun
  | [d1, d2, d3, d4, d5, d6] => { results := [.lit (.bool false)], args := [d1, d2, d3, d4, d5, d6] }
  | _ => none }
def LawS1419CFailureWrongFormAsk : Prop := lawS1419CFailureRow.holds Ybaf.pinned (OpenSpec.ofChange lawS1419CFailureWrong)

end Rows
end Go.Proofs.YbulkacjcFmt
