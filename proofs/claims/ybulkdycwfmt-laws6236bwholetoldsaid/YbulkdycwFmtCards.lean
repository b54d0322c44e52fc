/-
  DERIVED. GIVEN WITH THE SEED: THE CARDS: each row of YbulkdycwFmtRows.lean that lists a variable, with what it lists TIED to the program's text (the seventh form; the later family's looks); each row that meets fmt, with fmt's text TOLD by the authors' own Lean function (tested against real Go, not proved from fmt's source: count such statements apart). THE CARD IS WHAT COUNTS. Prove the row's statement (the work); the ties are given (YbulkdycwFmtTie.lean); close each card by the builder's one call (the guide's Derived/Test/ToyasCard.lean, 'card_holds'). Laid BY PROGRAM, IN A SANDBOX (cutbox-door.mjs). By AI agents, Wed Nov 11 2026. No macro, syntax, notation, axiom, sorry.
-/
import Derived.Test.YbulkdycwFmtRows
import GoSem.ClaimSeven
namespace Go.Proofs.YbulkdycwFmt
namespace Rows

/-- THE TOLD AND TIED CARD OF 'hopmark.LawS6236BWhole'. -/
def lawS6236BWholeCard : Claim7 := { stood := { row := lawS6236BWholeRow, standIns := [], harness := (true, "b53b660342de4decb0b52be599eb7678373a09c21124f2649b173e8dd89e623e"), looks := false }, told := true, laidByText := true, laidKinds := [.calledDeep], laidTests := true, laidLooks := .later, goes := false }
def LawS6236BWholeToldSaid : Prop := Claim7.holds Ybaf.pinned (.plain (OpenSpec.ofChange lawS6236BWholeSpec)) lawS6236BWholeCard
/-- ITS FALSE NEIGHBOUR. Refute it at one input. -/
def LawS6236BWholeToldWrongFalsely : Prop := Claim7.holds Ybaf.pinned (.plain (OpenSpec.ofChange lawS6236BWholeWrong)) lawS6236BWholeCard
end Rows
end Go.Proofs.YbulkdycwFmt
