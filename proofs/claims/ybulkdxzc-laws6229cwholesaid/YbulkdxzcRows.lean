/-
  No cell of these rows narrows 'for every input' (looked for: loops, veiled, ifaces, maps, wideKeys, modest, calm, conditions, laid).
  DERIVED. THE GIVEN ROWS OF THIS SEAT. 1 by the template 'for every input the law returns true; each argument reads behind the call as it read before'; 0 by the template 'total and deterministic' (their statements: YbulkdxzcTotals.lean).
  GIVEN WITH THE SEED: the statements are not yours to turn. If you find one false, say at which input.
  Laid BY PROGRAM, IN A SANDBOX (cutbox-rows.mjs): the forced cells as the released guide's own fill.sh prints them over the translation 96f900d661489ee8… (all of the seat's roots in one cut). By AI agents, Wed Nov 11 2026. No macro, syntax, notation, axiom, sorry.
-/
import Derived.Test.YbulkdxzcChecked
import GoSem.Claim
import GoSem.ClaimJoined
import GoSem.ClaimMapViews
import Derived.JoinedTies
import Derived.KernelRfl
namespace Go.Proofs.Ybulkdxzc
/- THE CELL 'sum', in the pinned program and in every row, IS THE sha256 OF THE DUMP (.gsa) THAT YbulkdxzcProg.lean LOADS. Nothing in Lean hashes anything: it is a label: what it is worth is what the hold of that sum in a sandbox is worth. -/
noncomputable def Yba.pinned : Pinned := { name := "ybulkdxzc", sum := "96f900d661489ee89bc4663a7c12ae793016407fbcdcde949be577f985c11336", checked := Yba.checked }
namespace Rows
def none {H : Type} : Left H := { results := [], args := [] }

/-- 'r1cs.LawS6229CWhole': WHATEVER THE INPUT: true; the input reads as it did. -/
def lawS6229CWholeSpec : ChangeSpec := { name := "lawS6229CWhole", fn := fun _ => fun
  | [d1, d2, d3, d4, d5, d6, d7, d8, d9, d10] => { results := [.lit (.bool true)], args := [d1, d2, d3, d4, d5, d6, d7, d8, d9, d10] }
  | _ => none }
def lawS6229CWholeRow : OpenClaim := { program := "ybulkdxzc", sum := "96f900d661489ee89bc4663a7c12ae793016407fbcdcde949be577f985c11336", func := "example.com/cinch/cinch/r1cs.LawS6229CWhole", spec := "lawS6229CWhole", apart := false }
def LawS6229CWholeSaid : Prop := lawS6229CWholeRow.holds Yba.pinned (OpenSpec.ofChange lawS6229CWholeSpec)

/-- ITS FALSE NEIGHBOUR: 'it returns false'. Refute it at one input. -/
def lawS6229CWholeWrong : ChangeSpec := { name := "lawS6229CWhole", fn := fun _ => fun
  | [d1, d2, d3, d4, d5, d6, d7, d8, d9, d10] => { results := [.lit (.bool false)], args := [d1, d2, d3, d4, d5, d6, d7, d8, d9, d10] }
  | _ => none }
def LawS6229CWholeWrongFalsely : Prop := lawS6229CWholeRow.holds Yba.pinned (OpenSpec.ofChange lawS6229CWholeWrong)

end Rows
end Go.Proofs.Ybulkdxzc
