/-
  DERIVED. GIVEN WITH THE SEED: THE CARDS: each row of YbulkdxyaFmtRows.lean that lists a variable, with what it lists TIED to the program's text (the seventh form; the later family's looks); each row that meets fmt, with fmt's text TOLD by the authors' own Lean function (tested against real Go, not proved from fmt's source: count such statements apart). THE CARD IS WHAT COUNTS. Prove the row's statement (the work); the ties are given (YbulkdxyaFmtTie.lean); close each card by the builder's one call (the guide's Derived/Test/ToyasCard.lean, 'card_holds'). Laid BY PROGRAM, IN A SANDBOX (cutbox-door.mjs). By AI agents, Wed Nov 11 2026. No macro, syntax, notation, axiom, sorry.
-/
import Derived.Test.YbulkdxyaFmtRows
import GoSem.ClaimSeven
namespace Go.Proofs.YbulkdxyaFmt
namespace Rows

/-- THE TOLD CARD OF 'sim.LawS6227AWhole'. -/
def lawS6227AWholeCard : Claim7 := { stood := { row := lawS6227AWholeRow, standIns := [], harness := (true, "e39c2b02b5c5350a16ee01b756f62976b70884575badcc3112ca73fe786551c0"), looks := false }, told := true, goes := false }
def LawS6227AWholeToldSaid : Prop := Claim7.holds Ybaf.pinned (.plain (OpenSpec.ofChange lawS6227AWholeSpec)) lawS6227AWholeCard
/-- ITS FALSE NEIGHBOUR. Refute it at one input. -/
def LawS6227AWholeToldWrongFalsely : Prop := Claim7.holds Ybaf.pinned (.plain (OpenSpec.ofChange lawS6227AWholeWrong)) lawS6227AWholeCard

/-- THE TOLD CARD OF 'ringkeeper.LawS6227CWhole'. -/
def lawS6227CWholeCard : Claim7 := { stood := { row := lawS6227CWholeRow, standIns := [], harness := (true, "e39c2b02b5c5350a16ee01b756f62976b70884575badcc3112ca73fe786551c0"), looks := false }, told := true, goes := false }
def LawS6227CWholeToldSaid : Prop := Claim7.holds Ybaf.pinned (.plain (OpenSpec.ofChange lawS6227CWholeSpec)) lawS6227CWholeCard
/-- ITS FALSE NEIGHBOUR. Refute it at one input. -/
def LawS6227CWholeToldWrongFalsely : Prop := Claim7.holds Ybaf.pinned (.plain (OpenSpec.ofChange lawS6227CWholeWrong)) lawS6227CWholeCard
end Rows
end Go.Proofs.YbulkdxyaFmt
