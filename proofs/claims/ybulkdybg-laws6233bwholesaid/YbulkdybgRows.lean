/-
  No cell of these rows narrows 'for every input' (looked for: loops, veiled, ifaces, maps, wideKeys, modest, calm, conditions, laid).
  DERIVED. THE GIVEN ROWS OF THIS SEAT. 2 by the template 'for every input the law returns true; each argument reads behind the call as it read before'; 0 by the template 'total and deterministic' (their statements: YbulkdybgTotals.lean).
  GIVEN WITH THE SEED: the statements are not yours to turn. If you find one false, say at which input.
  Laid BY PROGRAM, IN A SANDBOX (cutbox-rows.mjs): the forced cells as the released guide's own fill.sh prints them over the translation 72f820d9525b3e69… (all of the seat's roots in one cut). By AI agents, Wed Nov 11 2026. No macro, syntax, notation, axiom, sorry.
-/
import Derived.Test.YbulkdybgChecked
import GoSem.Claim
import GoSem.ClaimJoined
import GoSem.ClaimMapViews
import Derived.JoinedTies
import Derived.KernelRfl
namespace Go.Proofs.Ybulkdybg
/- THE CELL 'sum', in the pinned program and in every row, IS THE sha256 OF THE DUMP (.gsa) THAT YbulkdybgProg.lean LOADS. Nothing in Lean hashes anything: it is a label: what it is worth is what the hold of that sum in a sandbox is worth. -/
noncomputable def Yba.pinned : Pinned := { name := "ybulkdybg", sum := "72f820d9525b3e697180b28dbd1a80aece35a65b4ad7b6ef632193d6f865db74", checked := Yba.checked }
namespace Rows
def none {H : Type} : Left H := { results := [], args := [] }

/-- 'eventlog.LawS6233AWhole': WHATEVER THE INPUT: true; the input reads as it did. -/
def lawS6233AWholeSpec : ChangeSpec := { name := "lawS6233AWhole", fn := fun _ => fun
  | [d1, d2] => { results := [.lit (.bool true)], args := [d1, d2] }
  | _ => none }
def lawS6233AWholeRow : OpenClaim := { program := "ybulkdybg", sum := "72f820d9525b3e697180b28dbd1a80aece35a65b4ad7b6ef632193d6f865db74", func := "example.com/causalis/causalis/internal/eventlog.LawS6233AWhole", spec := "lawS6233AWhole", inPlace := ["internal/bytealg.IndexByte", "internal/bytealg.Index"], unfollowed := true, recurses := true, named := ["internal/bytealg.MaxLen"], apart := false }
def LawS6233AWholeSaid : Prop := lawS6233AWholeRow.holds Yba.pinned (OpenSpec.ofChange lawS6233AWholeSpec)

/-- ITS FALSE NEIGHBOUR: 'it returns false'. Refute it at one input. -/
def lawS6233AWholeWrong : ChangeSpec := { name := "lawS6233AWhole", fn := fun _ => fun
  | [d1, d2] => { results := [.lit (.bool false)], args := [d1, d2] }
  | _ => none }
def LawS6233AWholeWrongFalsely : Prop := lawS6233AWholeRow.holds Yba.pinned (OpenSpec.ofChange lawS6233AWholeWrong)

/-- 'causalis.LawS6233BWhole': WHATEVER THE INPUT: true; the input reads as it did. -/
def lawS6233BWholeSpec : ChangeSpec := { name := "lawS6233BWhole", fn := fun _ => fun
  | [d] => { results := [.lit (.bool true)], args := [d] }
  | _ => none }
def lawS6233BWholeRow : OpenClaim := { program := "ybulkdybg", sum := "72f820d9525b3e697180b28dbd1a80aece35a65b4ad7b6ef632193d6f865db74", func := "example.com/causalis/causalis.LawS6233BWhole", spec := "lawS6233BWhole", apart := false }
def LawS6233BWholeSaid : Prop := lawS6233BWholeRow.holds Yba.pinned (OpenSpec.ofChange lawS6233BWholeSpec)

/-- ITS FALSE NEIGHBOUR: 'it returns false'. Refute it at one input. -/
def lawS6233BWholeWrong : ChangeSpec := { name := "lawS6233BWhole", fn := fun _ => fun
  | [d] => { results := [.lit (.bool false)], args := [d] }
  | _ => none }
def LawS6233BWholeWrongFalsely : Prop := lawS6233BWholeRow.holds Yba.pinned (OpenSpec.ofChange lawS6233BWholeWrong)

end Rows
end Go.Proofs.Ybulkdybg
