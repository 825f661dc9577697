/-
  No cell of these rows narrows 'for every input' (looked for: loops, veiled, ifaces, maps, wideKeys, modest, calm, conditions, laid).
  DERIVED. THE GIVEN ROWS OF THIS SEAT. 4 by the template 'for every input the law returns true; each argument reads behind the call as it read before'; 0 by the template 'total and deterministic' (their statements: YbulkachmTotals.lean).
  GIVEN WITH THE SEED: the statements are not yours to turn. If you find one false, say at which input.
  Laid BY PROGRAM, IN A SANDBOX (cutbox-rows.mjs): the forced cells as the released guide's own fill.sh prints them over the translation 8d6246073bd59735… (all of the seat's roots in one cut). By AI agents, Wed Nov 11 2026. No macro, syntax, notation, axiom, sorry.
-/
import Derived.Test.YbulkachmChecked
import GoSem.Claim
import GoSem.ClaimJoined
import GoSem.ClaimMapViews
import Derived.JoinedTies
import Derived.KernelRfl
namespace Go.Proofs.Ybulkachm
/- THE CELL 'sum', in the pinned program and in every row, IS THE sha256 OF THE DUMP (.gsa) THAT YbulkachmProg.lean LOADS. Nothing in Lean hashes anything: it is a label: what it is worth is what the hold of that sum in a sandbox is worth. -/
noncomputable def Yba.pinned : Pinned := { name := "ybulkachm", sum := "8d6246073bd59735e3f1864009b49775c10696179ddb4930aacf25ae8bdfea50", checked := Yba.checked }
namespace Rows
def none {H : Type} : Left H := { results := [], args := [] }

/-- 'ambit.LawS1416AAdopt': WHATEVER THE INPUT: true; the input reads as it did. -/
def lawS1416AAdoptSpec : ChangeSpec := { name := "lawS1416AAdopt", fn := fun _ => fun
  | [d1, d2, d3] => { results := [.lit (.bool true)], args := [d1, d2, d3] }
  | _ => none }
def lawS1416AAdoptRow : OpenClaim := { program := "ybulkachm", sum := "8d6246073bd59735e3f1864009b49775c10696179ddb4930aacf25ae8bdfea50", func := "example.com/ambit/ambit.LawS1416AAdopt", spec := "lawS1416AAdopt", inPlace := ["(*internal/sync.Mutex).Lock", "internal/race.Disable", "sync/atomic.CompareAndSwapInt32", "internal/race.Enable", "internal/race.Acquire", "(*internal/sync.Mutex).lockSlow", "internal/sync.runtime_canSpin", "internal/sync.runtime_doSpin", "internal/sync.throw", "internal/sync.runtime_nanotime", "internal/sync.runtime_SemacquireMutex", "sync/atomic.AddInt32", "(*internal/sync.Mutex).Unlock", "internal/race.ReleaseMerge", "(*internal/sync.Mutex).unlockSlow", "internal/sync.fatal", "internal/sync.runtime_Semrelease"], apart := false }
def LawS1416AAdoptSaid : Prop := lawS1416AAdoptRow.holds Yba.pinned (OpenSpec.ofChange lawS1416AAdoptSpec)

/-- ITS FALSE NEIGHBOUR: 'it returns false'. Refute it at one input. -/
def lawS1416AAdoptWrong : ChangeSpec := { name := "lawS1416AAdopt", fn := fun _ => fun
  | [d1, d2, d3] => { results := [.lit (.bool false)], args := [d1, d2, d3] }
  | _ => none }
def LawS1416AAdoptWrongFalsely : Prop := lawS1416AAdoptRow.holds Yba.pinned (OpenSpec.ofChange lawS1416AAdoptWrong)

/-- 'ambit.LawS1416BHolder': WHATEVER THE INPUT: true; the input reads as it did. -/
def lawS1416BHolderSpec : ChangeSpec := { name := "lawS1416BHolder", fn := fun _ => fun
  | [d] => { results := [.lit (.bool true)], args := [d] }
  | _ => none }
def lawS1416BHolderRow : OpenClaim := { program := "ybulkachm", sum := "8d6246073bd59735e3f1864009b49775c10696179ddb4930aacf25ae8bdfea50", func := "example.com/ambit/ambit.LawS1416BHolder", spec := "lawS1416BHolder", apart := false }
def LawS1416BHolderSaid : Prop := lawS1416BHolderRow.holds Yba.pinned (OpenSpec.ofChange lawS1416BHolderSpec)

/-- ITS FALSE NEIGHBOUR: 'it returns false'. Refute it at one input. -/
def lawS1416BHolderWrong : ChangeSpec := { name := "lawS1416BHolder", fn := fun _ => fun
  | [d] => { results := [.lit (.bool false)], args := [d] }
  | _ => none }
def LawS1416BHolderWrongFalsely : Prop := lawS1416BHolderRow.holds Yba.pinned (OpenSpec.ofChange lawS1416BHolderWrong)

/-- 'ambit.LawS1416BStable': WHATEVER THE INPUT: true; the input reads as it did. -/
def lawS1416BStableSpec : ChangeSpec := { name := "lawS1416BStable", fn := fun _ => fun
  | [d] => { results := [.lit (.bool true)], args := [d] }
  | _ => none }
def lawS1416BStableRow : OpenClaim := { program := "ybulkachm", sum := "8d6246073bd59735e3f1864009b49775c10696179ddb4930aacf25ae8bdfea50", func := "example.com/ambit/ambit.LawS1416BStable", spec := "lawS1416BStable", apart := false }
def LawS1416BStableSaid : Prop := lawS1416BStableRow.holds Yba.pinned (OpenSpec.ofChange lawS1416BStableSpec)

/-- ITS FALSE NEIGHBOUR: 'it returns false'. Refute it at one input. -/
def lawS1416BStableWrong : ChangeSpec := { name := "lawS1416BStable", fn := fun _ => fun
  | [d] => { results := [.lit (.bool false)], args := [d] }
  | _ => none }
def LawS1416BStableWrongFalsely : Prop := lawS1416BStableRow.holds Yba.pinned (OpenSpec.ofChange lawS1416BStableWrong)

/-- 'ambit.LawS1416CErr': WHATEVER THE INPUT: true; the input reads as it did. -/
def lawS1416CErrSpec : ChangeSpec := { name := "lawS1416CErr", fn := fun _ => fun
  | [d1, d2, d3] => { results := [.lit (.bool true)], args := [d1, d2, d3] }
  | _ => none }
def lawS1416CErrRow : OpenClaim := { program := "ybulkachm", sum := "8d6246073bd59735e3f1864009b49775c10696179ddb4930aacf25ae8bdfea50", func := "example.com/ambit/ambit.LawS1416CErr", spec := "lawS1416CErr", inPlace := ["(*internal/sync.Mutex).Lock", "internal/race.Disable", "sync/atomic.CompareAndSwapInt32", "internal/race.Enable", "internal/race.Acquire", "(*internal/sync.Mutex).lockSlow", "internal/sync.runtime_canSpin", "internal/sync.runtime_doSpin", "internal/sync.throw", "internal/sync.runtime_nanotime", "internal/sync.runtime_SemacquireMutex", "sync/atomic.AddInt32", "(*internal/sync.Mutex).Unlock", "internal/race.ReleaseMerge", "(*internal/sync.Mutex).unlockSlow", "internal/sync.fatal", "internal/sync.runtime_Semrelease", "time.stopTimer"], unfollowed := true, recurses := true, apart := false }
def LawS1416CErrSaid : Prop := lawS1416CErrRow.holds Yba.pinned (OpenSpec.ofChange lawS1416CErrSpec)

/-- ITS FALSE NEIGHBOUR: 'it returns false'. Refute it at one input. -/
def lawS1416CErrWrong : ChangeSpec := { name := "lawS1416CErr", fn := fun _ => fun
  | [d1, d2, d3] => { results := [.lit (.bool false)], args := [d1, d2, d3] }
  | _ => none }
def LawS1416CErrWrongFalsely : Prop := lawS1416CErrRow.holds Yba.pinned (OpenSpec.ofChange lawS1416CErrWrong)

end Rows
end Go.Proofs.Ybulkachm
