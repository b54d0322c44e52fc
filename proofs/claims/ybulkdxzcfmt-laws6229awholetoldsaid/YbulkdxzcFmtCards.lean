/-
  DERIVED. GIVEN WITH THE SEED: THE CARDS: each row of YbulkdxzcFmtRows.lean that lists a variable, with what it lists TIED to the program's text (the seventh form; the later family's looks); each row that meets fmt, with fmt's text TOLD by the authors' own Lean function (tested against real Go, not proved from fmt's source: count such statements apart). THE CARD IS WHAT COUNTS. Prove the row's statement (the work); the ties are given (YbulkdxzcFmtTie.lean); close each card by the builder's one call (the guide's Derived/Test/ToyasCard.lean, 'card_holds'). Laid BY PROGRAM, IN A SANDBOX (cutbox-door.mjs). By AI agents, Wed Nov 11 2026. No macro, syntax, notation, axiom, sorry.
-/
import Derived.Test.YbulkdxzcFmtRows
import GoSem.ClaimSeven
namespace Go.Proofs.YbulkdxzcFmt
namespace Rows

/-- THE TOLD AND TIED CARD OF 'syntax.LawS6229AWhole'. -/
def lawS6229AWholeCard : Claim7 := { stood := { row := lawS6229AWholeRow, standIns := [], harness := (true, "00f5ea411a36bb3f18acddd14ff8933685e8f8c0adcf80035c2e97a492fb2ddd"), looks := true }, told := true, laidByText := true, laidKinds := [.mapped, .data], laidTests := true, laidLooks := .later, goes := false }
def LawS6229AWholeToldSaid : Prop := Claim7.holds Ybaf.pinned (.plain (OpenSpec.ofChange lawS6229AWholeSpec)) lawS6229AWholeCard
/-- ITS FALSE NEIGHBOUR. Refute it at one input. -/
def LawS6229AWholeToldWrongFalsely : Prop := Claim7.holds Ybaf.pinned (.plain (OpenSpec.ofChange lawS6229AWholeWrong)) lawS6229AWholeCard
end Rows
end Go.Proofs.YbulkdxzcFmt
