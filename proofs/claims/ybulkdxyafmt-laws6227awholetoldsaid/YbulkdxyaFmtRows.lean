/-
  No cell of these rows narrows 'for every input' (looked for: loops, veiled, ifaces, maps, wideKeys, modest, calm, conditions, laid).
  DERIVED. THE GIVEN ROWS OF THIS SEAT. 2 by the template 'for every input the law returns true; each argument reads behind the call as it read before'; 0 by the template 'total and deterministic' (their statements: YbulkdxyaFmtTotals.lean).
  GIVEN WITH THE SEED: the statements are not yours to turn. If you find one false, say at which input.
  Laid BY PROGRAM, IN A SANDBOX (cutbox-rows.mjs): the forced cells as the released guide's own fill.sh prints them over the translation 12ea9596a3ef5cfe… (all of the seat's roots in one cut). By AI agents, Wed Nov 11 2026. No macro, syntax, notation, axiom, sorry.
-/
import Derived.Test.YbulkdxyaFmtChecked
import GoSem.Claim
import GoSem.ClaimJoined
import GoSem.ClaimMapViews
import Derived.JoinedTies
import Derived.KernelRfl
namespace Go.Proofs.YbulkdxyaFmt
/- THE CELL 'sum', in the pinned program and in every row, IS THE sha256 OF THE DUMP (.gsa) THAT YbulkdxyaFmtProg.lean LOADS. Nothing in Lean hashes anything: it is a label: what it is worth is what the hold of that sum in a sandbox is worth. -/
noncomputable def Ybaf.pinned : Pinned := { name := "ybulkdxyafmt", sum := "12ea9596a3ef5cfe08e92d5d69f2a53b09b45ddd7864472165c78387ed284e79", checked := Ybaf.checked }
namespace Rows
def none {H : Type} : Left H := { results := [], args := [] }

/-- 'sim.LawS6227AWhole': WHATEVER THE INPUT: true; the input reads as it did. -/
def lawS6227AWholeSpec : ChangeSpec := { name := "lawS6227AWhole", fn := fun _ => fun
  | [d1, d2] => { results := [.lit (.bool true)], args := [d1, d2] }
  | _ => none }
def lawS6227AWholeRow : OpenClaim := { program := "ybulkdxyafmt", sum := "12ea9596a3ef5cfe08e92d5d69f2a53b09b45ddd7864472165c78387ed284e79", func := "example.com/ringkeeper/ringkeeper/internal/sim.LawS6227AWhole", spec := "lawS6227AWhole", stops := ["fmt.errorf, its operands' methods called", "fmt.Sprintf"], inPlace := ["fmt.errorf"], unfollowed := true, recurses := true, apart := false }
/-- NO THEOREM (fmt's text is open here; it may be false): for the released tool's asking of the row's closed facts alone. THE STATEMENT IS 'LawS6227AWholeToldSaid' (YbulkdxyaFmtCards.lean). -/
def LawS6227AWholeFormAsk : Prop := lawS6227AWholeRow.holds Ybaf.pinned (OpenSpec.ofChange lawS6227AWholeSpec)

/-- ITS FALSE NEIGHBOUR: 'it returns false'. Refute it at one input. -/
def lawS6227AWholeWrong : ChangeSpec := { name := "lawS6227AWhole", fn := fun _ => fun
  | [d1, d2] => { results := [.lit (.bool false)], args := [d1, d2] }
  | _ => none }
def LawS6227AWholeWrongFormAsk : Prop := lawS6227AWholeRow.holds Ybaf.pinned (OpenSpec.ofChange lawS6227AWholeWrong)

/-- 'ringkeeper.LawS6227CWhole': WHATEVER THE INPUT: true; the input reads as it did. -/
def lawS6227CWholeSpec : ChangeSpec := { name := "lawS6227CWhole", fn := fun _ => fun
  | [d1, d2, d3, d4, d5, d6] => { results := [.lit (.bool true)], args := [d1, d2, d3, d4, d5, d6] }
  | _ => none }
def lawS6227CWholeRow : OpenClaim := { program := "ybulkdxyafmt", sum := "12ea9596a3ef5cfe08e92d5d69f2a53b09b45ddd7864472165c78387ed284e79", func := "example.com/ringkeeper/ringkeeper.LawS6227CWhole", spec := "lawS6227CWhole", stops := ["fmt.errorf, its operands' methods called", "fmt.Sprintf"], inPlace := ["fmt.errorf"], unfollowed := true, recurses := true, apart := false }
/-- NO THEOREM (fmt's text is open here; it may be false): for the released tool's asking of the row's closed facts alone. THE STATEMENT IS 'LawS6227CWholeToldSaid' (YbulkdxyaFmtCards.lean). -/
def LawS6227CWholeFormAsk : Prop := lawS6227CWholeRow.holds Ybaf.pinned (OpenSpec.ofChange lawS6227CWholeSpec)

/-- ITS FALSE NEIGHBOUR: 'it returns false'. Refute it at one input. -/
def lawS6227CWholeWrong : ChangeSpec := { name := "lawS6227CWhole", fn := fun _ => fun
  | [d1, d2, d3, d4, d5, d6] => { results := [.lit (.bool false)], args := [d1, d2, d3, d4, d5, d6] }
  | _ => none }
def LawS6227CWholeWrongFormAsk : Prop := lawS6227CWholeRow.holds Ybaf.pinned (OpenSpec.ofChange lawS6227CWholeWrong)

end Rows
end Go.Proofs.YbulkdxyaFmt
