/-
  NARROWER THAN 'FOR EVERY INPUT', by the rows' own cells (each row's printed sentence says how): LawS6236BWhole: laid.
  DERIVED. THE GIVEN ROWS OF THIS SEAT. 1 by the template 'for every input the law returns true; each argument reads behind the call as it read before'; 0 by the template 'total and deterministic' (their statements: YbulkdycwFmtTotals.lean).
  GIVEN WITH THE SEED: the statements are not yours to turn. If you find one false, say at which input.
  Laid BY PROGRAM, IN A SANDBOX (cutbox-rows.mjs): the forced cells as the released guide's own fill.sh prints them over the translation cfa9030119a33e99… (all of the seat's roots in one cut). By AI agents, Wed Nov 11 2026. No macro, syntax, notation, axiom, sorry.
-/
import Derived.Test.YbulkdycwFmtChecked
import GoSem.Claim
import GoSem.ClaimJoined
import GoSem.ClaimMapViews
import Derived.JoinedTies
import Derived.KernelRfl
namespace Go.Proofs.YbulkdycwFmt
/- THE CELL 'sum', in the pinned program and in every row, IS THE sha256 OF THE DUMP (.gsa) THAT YbulkdycwFmtProg.lean LOADS. Nothing in Lean hashes anything: it is a label: what it is worth is what the hold of that sum in a sandbox is worth. -/
noncomputable def Ybaf.pinned : Pinned := { name := "ybulkdycwfmt", sum := "cfa9030119a33e999af99e8f1e0af8e86ea2d43f32611b46251b5a0675d1d216", checked := Ybaf.checked }
namespace Rows
def none {H : Type} : Left H := { results := [], args := [] }

/- WHAT THE LISTED PACKAGE-LEVEL VARIABLES READ AS WHEN THE CALL BEGINS. Each datum BY PROGRAM (the guide's laid-datum.mjs) off the statement by which the dump's own 'gosem.cut.vars' lays the variable. In a bare row this is a premise. The card (YbulkdycwFmtCards.lean) ties it to the program's text. -/
def laid_example_com_hopmark_hopmark_nodeFields {H : Type} : DataW H := .agg [.agg [.lit (.int .u32 8388608), .lit (.int .i64 1), .lit (.string [104, 111, 112, 95, 108, 105, 109, 105, 116])], .agg [.lit (.int .u32 8388608), .lit (.int .i64 3), .lit (.string [110, 111, 100, 101, 95, 105, 100])], .agg [.lit (.int .u32 4194304), .lit (.int .i64 2), .lit (.string [105, 110, 103, 114, 101, 115, 115, 95, 105, 102, 95, 105, 100])], .agg [.lit (.int .u32 4194304), .lit (.int .i64 2), .lit (.string [101, 103, 114, 101, 115, 115, 95, 105, 102, 95, 105, 100])], .agg [.lit (.int .u32 2097152), .lit (.int .i64 4), .lit (.string [116, 105, 109, 101, 115, 116, 97, 109, 112, 95, 115, 101, 99, 111, 110, 100, 115])], .agg [.lit (.int .u32 1048576), .lit (.int .i64 4), .lit (.string [116, 105, 109, 101, 115, 116, 97, 109, 112, 95, 102, 114, 97, 99, 116, 105, 111, 110])], .agg [.lit (.int .u32 524288), .lit (.int .i64 4), .lit (.string [116, 114, 97, 110, 115, 105, 116, 95, 100, 101, 108, 97, 121])], .agg [.lit (.int .u32 262144), .lit (.int .i64 4), .lit (.string [110, 97, 109, 101, 115, 112, 97, 99, 101, 95, 100, 97, 116, 97])], .agg [.lit (.int .u32 131072), .lit (.int .i64 4), .lit (.string [113, 117, 101, 117, 101, 95, 100, 101, 112, 116, 104])], .agg [.lit (.int .u32 65536), .lit (.int .i64 4), .lit (.string [99, 104, 101, 99, 107, 115, 117, 109, 95, 99, 111, 109, 112, 108, 101, 109, 101, 110, 116])], .agg [.lit (.int .u32 32768), .lit (.int .i64 1), .lit (.string [104, 111, 112, 95, 108, 105, 109, 105, 116, 95, 119, 105, 100, 101])], .agg [.lit (.int .u32 32768), .lit (.int .i64 7), .lit (.string [110, 111, 100, 101, 95, 105, 100, 95, 119, 105, 100, 101])], .agg [.lit (.int .u32 16384), .lit (.int .i64 4), .lit (.string [105, 110, 103, 114, 101, 115, 115, 95, 105, 102, 95, 105, 100, 95, 119, 105, 100, 101])], .agg [.lit (.int .u32 16384), .lit (.int .i64 4), .lit (.string [101, 103, 114, 101, 115, 115, 95, 105, 102, 95, 105, 100, 95, 119, 105, 100, 101])], .agg [.lit (.int .u32 8192), .lit (.int .i64 8), .lit (.string [110, 97, 109, 101, 115, 112, 97, 99, 101, 95, 100, 97, 116, 97, 95, 119, 105, 100, 101])], .agg [.lit (.int .u32 4096), .lit (.int .i64 4), .lit (.string [98, 117, 102, 102, 101, 114, 95, 111, 99, 99, 117, 112, 97, 110, 99, 121])]]

/-- 'hopmark.LawS6236BWhole': WHATEVER THE INPUT: true; the input reads as it did. -/
def lawS6236BWholeSpec : ChangeSpec := { name := "lawS6236BWhole", vars := ["example.com/hopmark/hopmark.nodeFields"], fn := fun _ => fun
  | [d1, d2, d3, d4, d5, d6, d7, d8, d9, g1] => { results := [.lit (.bool true)], args := [d1, d2, d3, d4, d5, d6, d7, d8, d9], vars := [g1] }
  | _ => none }
def lawS6236BWholeRow : OpenClaim := { program := "ybulkdycwfmt", sum := "cfa9030119a33e999af99e8f1e0af8e86ea2d43f32611b46251b5a0675d1d216", func := "example.com/hopmark/hopmark.LawS6236BWhole", spec := "lawS6236BWhole", stops := ["fmt.errorf, its operands' methods called"], inPlace := ["fmt.errorf"], unfollowed := true, recurses := true, named := ["encoding/binary.BigEndian", "example.com/hopmark/hopmark.nodeFields"], apart := false, laid := [("example.com/hopmark/hopmark.nodeFields", laid_example_com_hopmark_hopmark_nodeFields)] }
/-- NO THEOREM (fmt's text is open here; it may be false): for the released tool's asking of the row's closed facts alone. THE STATEMENT IS 'LawS6236BWholeToldSaid' (YbulkdycwFmtCards.lean). -/
def LawS6236BWholeFormAsk : Prop := lawS6236BWholeRow.holds Ybaf.pinned (OpenSpec.ofChange lawS6236BWholeSpec)

/-- ITS FALSE NEIGHBOUR: 'it returns false'. Refute it at one input. -/
def lawS6236BWholeWrong : ChangeSpec := { name := "lawS6236BWhole", vars := ["example.com/hopmark/hopmark.nodeFields"], fn := fun _ => fun
  | [d1, d2, d3, d4, d5, d6, d7, d8, d9, g1] => { results := [.lit (.bool false)], args := [d1, d2, d3, d4, d5, d6, d7, d8, d9], vars := [g1] }
  | _ => none }
def LawS6236BWholeWrongFormAsk : Prop := lawS6236BWholeRow.holds Ybaf.pinned (OpenSpec.ofChange lawS6236BWholeWrong)

end Rows
end Go.Proofs.YbulkdycwFmt
