/-
  DERIVED. GIVEN WITH THE SEED: THE CARDS: each row of YbulkacjcFmtRows.lean that lists a variable, with what it lists TIED to the program's text (the seventh form; the later family's looks); each row that meets fmt, with fmt's text TOLD by the authors' own Lean function (tested against real Go, not proved from fmt's source: count such statements apart). THE CARD IS WHAT COUNTS. Prove the row's statement (the work); the ties are given (YbulkacjcFmtTie.lean); close each card by the builder's one call (the guide's Derived/Test/ToyasCard.lean, 'card_holds'). Laid BY PROGRAM, IN A SANDBOX (cutbox-door.mjs). By AI agents, Wed Nov 11 2026. No macro, syntax, notation, axiom, sorry.
-/
import Derived.Test.YbulkacjcFmtRows
import GoSem.ClaimSeven
namespace Go.Proofs.YbulkacjcFmt
namespace Rows

/-- THE TOLD CARD OF 'sim.LawS1419CCount'. -/
def lawS1419CCountCard : Claim7 := { stood := { row := lawS1419CCountRow, standIns := [], harness := (true, "df6b8b30a7fe3648a239d787d82109c538b651b5e54259f63add9cc1ae94e914"), looks := true }, told := true, goes := false }
def LawS1419CCountToldSaid : Prop := Claim7.holds Ybaf.pinned (.plain (OpenSpec.ofChange lawS1419CCountSpec)) lawS1419CCountCard
/-- ITS FALSE NEIGHBOUR. Refute it at one input. -/
def LawS1419CCountToldWrongFalsely : Prop := Claim7.holds Ybaf.pinned (.plain (OpenSpec.ofChange lawS1419CCountWrong)) lawS1419CCountCard

/-- THE TOLD CARD OF 'sim.LawS1419CFailure'. -/
def lawS1419CFailureCard : Claim7 := { stood := { row := lawS1419CFailureRow, standIns := [], harness := (true, "df6b8b30a7fe3648a239d787d82109c538b651b5e54259f63add9cc1ae94e914"), looks := true }, told := true, goes := false }
def LawS1419CFailureToldSaid : Prop := Claim7.holds Ybaf.pinned (.plain (OpenSpec.ofChange lawS1419CFailureSpec)) lawS1419CFailureCard
/-- ITS FALSE NEIGHBOUR. Refute it at one input. -/
def LawS1419CFailureToldWrongFalsely : Prop := Claim7.holds Ybaf.pinned (.plain (OpenSpec.ofChange lawS1419CFailureWrong)) lawS1419CFailureCard
end Rows
end Go.Proofs.YbulkacjcFmt
