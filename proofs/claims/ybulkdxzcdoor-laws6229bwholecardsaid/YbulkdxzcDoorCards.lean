/-
  DERIVED. GIVEN WITH THE SEED: THE CARDS: each row of YbulkdxzcDoorRows.lean that lists a variable, with what it lists TIED to the program's text (the seventh form; the later family's looks); each row that meets fmt, with fmt's text TOLD by the authors' own Lean function (tested against real Go, not proved from fmt's source: count such statements apart). THE CARD IS WHAT COUNTS. Prove the row's statement (the work); the ties are given (YbulkdxzcDoorTie.lean); close each card by the builder's one call (the guide's Derived/Test/ToyasCard.lean, 'card_holds'). Laid BY PROGRAM, IN A SANDBOX (cutbox-door.mjs). By AI agents, Wed Nov 11 2026. No macro, syntax, notation, axiom, sorry.
-/
import Derived.Test.YbulkdxzcDoorRows
import GoSem.ClaimSeven
namespace Go.Proofs.YbulkdxzcDoor
namespace Rows

/-- THE TIED CARD OF 'witness.LawS6229BWhole'. -/
def lawS6229BWholeCard : Claim7 := { stood := { row := lawS6229BWholeRow, standIns := [], harness := (true, "09c708ddee82208d0396917900a66082ceeea398fe9d03a3dc65ef8d05b1a699"), looks := true }, kinds := [], alts := [], laidByText := true, laidKinds := [.sentinel], laidTests := true, laidLooks := .later }
def LawS6229BWholeCardSaid : Prop := Claim7.holds Ybad.pinned (.plain (OpenSpec.ofChange lawS6229BWholeSpec)) lawS6229BWholeCard
end Rows
end Go.Proofs.YbulkdxzcDoor
