/-
  NARROWER THAN 'FOR EVERY INPUT', by the rows' own cells (each row's printed sentence says how): LawS6229AWhole: maps, laid.
  DERIVED. THE GIVEN ROWS OF THIS SEAT. 1 by the template 'for every input the law returns true; each argument reads behind the call as it read before'; 0 by the template 'total and deterministic' (their statements: YbulkdxzcFmtTotals.lean).
  GIVEN WITH THE SEED: the statements are not yours to turn. If you find one false, say at which input.
  Laid BY PROGRAM, IN A SANDBOX (cutbox-rows.mjs): the forced cells as the released guide's own fill.sh prints them over the translation 81eecd14e7830ae6… (all of the seat's roots in one cut). By AI agents, Wed Nov 11 2026. No macro, syntax, notation, axiom, sorry.
-/
import Derived.Test.YbulkdxzcFmtChecked
import GoSem.Claim
import GoSem.ClaimJoined
import GoSem.ClaimMapViews
import Derived.JoinedTies
import Derived.KernelRfl
namespace Go.Proofs.YbulkdxzcFmt
/- THE CELL 'sum', in the pinned program and in every row, IS THE sha256 OF THE DUMP (.gsa) THAT YbulkdxzcFmtProg.lean LOADS. Nothing in Lean hashes anything: it is a label: what it is worth is what the hold of that sum in a sandbox is worth. -/
noncomputable def Ybaf.pinned : Pinned := { name := "ybulkdxzcfmt", sum := "81eecd14e7830ae6ad0d49845d9d5cee3f0794292e1d5cd634f7fdc20fdf68f0", checked := Ybaf.checked }
namespace Rows
def none {H : Type} : Left H := { results := [], args := [] }

/- WHAT THE LISTED PACKAGE-LEVEL VARIABLES READ AS WHEN THE CALL BEGINS. Each datum BY PROGRAM (the guide's laid-datum.mjs) off the statement by which the dump's own 'gosem.cut.vars' lays the variable. In a bare row this is a premise. The card (YbulkdxzcFmtCards.lean) ties it to the program's text. -/
def laid_example_com_cinch_cinch_syntax_keywords {H : Type} : DataW H := .map [(.string [97, 108, 105, 97, 115], .lit (.int .i64 5)), (.string [99, 105, 114, 99, 117, 105, 116], .lit (.int .i64 6)), (.string [99, 111, 108, 117, 109, 110, 115], .lit (.int .i64 7)), (.string [99, 111, 110, 115, 116], .lit (.int .i64 8)), (.string [101, 108, 115, 101], .lit (.int .i64 9)), (.string [102, 105, 101, 108, 100], .lit (.int .i64 10)), (.string [102, 111, 114], .lit (.int .i64 11)), (.string [102, 117, 110, 99], .lit (.int .i64 12)), (.string [105, 102], .lit (.int .i64 13)), (.string [112, 114, 105, 118, 97, 116, 101], .lit (.int .i64 14)), (.string [112, 117, 98, 108, 105, 99], .lit (.int .i64 15)), (.string [114, 101, 116, 117, 114, 110], .lit (.int .i64 16)), (.string [116, 97, 98, 108, 101], .lit (.int .i64 17))]
def laid_example_com_cinch_cinch_syntax_operators {H : Type} : DataW H := .slice [.agg [.lit (.string [61, 61, 61]), .lit (.int .i64 30)], .agg [.lit (.string [61, 61]), .lit (.int .i64 40)], .agg [.lit (.string [61]), .lit (.int .i64 29)], .agg [.lit (.string [33, 61]), .lit (.int .i64 41)], .agg [.lit (.string [60, 45]), .lit (.int .i64 32)], .agg [.lit (.string [60, 61]), .lit (.int .i64 43)], .agg [.lit (.string [60]), .lit (.int .i64 42)], .agg [.lit (.string [62, 61]), .lit (.int .i64 45)], .agg [.lit (.string [62]), .lit (.int .i64 44)], .agg [.lit (.string [58, 61]), .lit (.int .i64 28)], .agg [.lit (.string [45, 62]), .lit (.int .i64 31)], .agg [.lit (.string [43, 43]), .lit (.int .i64 33)], .agg [.lit (.string [40]), .lit (.int .i64 18)], .agg [.lit (.string [41]), .lit (.int .i64 19)], .agg [.lit (.string [123]), .lit (.int .i64 20)], .agg [.lit (.string [125]), .lit (.int .i64 21)], .agg [.lit (.string [91]), .lit (.int .i64 22)], .agg [.lit (.string [93]), .lit (.int .i64 23)], .agg [.lit (.string [44]), .lit (.int .i64 24)], .agg [.lit (.string [59]), .lit (.int .i64 25)], .agg [.lit (.string [58]), .lit (.int .i64 26)], .agg [.lit (.string [46]), .lit (.int .i64 27)], .agg [.lit (.string [43]), .lit (.int .i64 34)], .agg [.lit (.string [45]), .lit (.int .i64 35)], .agg [.lit (.string [42]), .lit (.int .i64 36)], .agg [.lit (.string [47, 47]), .lit (.int .i64 38)], .agg [.lit (.string [47]), .lit (.int .i64 37)], .agg [.lit (.string [37]), .lit (.int .i64 39)]] []

/-- 'syntax.LawS6229AWhole': WHATEVER THE INPUT: true; the input reads as it did. -/
def lawS6229AWholeSpec : ChangeSpec := { name := "lawS6229AWhole", vars := ["example.com/cinch/cinch/syntax.keywords", "example.com/cinch/cinch/syntax.operators"], fn := fun _ => fun
  | [d1, d2, d3, d4, d5, d6, d7, d8, g1, g2] => { results := [.lit (.bool true)], args := [d1, d2, d3, d4, d5, d6, d7, d8], vars := [g1, g2] }
  | _ => none }
def lawS6229AWholeRow : OpenClaim := { program := "ybulkdxzcfmt", sum := "81eecd14e7830ae6ad0d49845d9d5cee3f0794292e1d5cd634f7fdc20fdf68f0", func := "example.com/cinch/cinch/syntax.LawS6229AWhole", spec := "lawS6229AWhole", stops := ["fmt.Sprintf, its operands' methods called"], inPlace := ["fmt.Sprintf"], unfollowed := true, recurses := true, named := ["example.com/cinch/cinch/syntax.keywords", "example.com/cinch/cinch/syntax.operators"], maps := true, apart := false, laid := [("example.com/cinch/cinch/syntax.keywords", laid_example_com_cinch_cinch_syntax_keywords), ("example.com/cinch/cinch/syntax.operators", laid_example_com_cinch_cinch_syntax_operators)] }
/-- NO THEOREM (fmt's text is open here; it may be false): for the released tool's asking of the row's closed facts alone. THE STATEMENT IS 'LawS6229AWholeToldSaid' (YbulkdxzcFmtCards.lean). -/
def LawS6229AWholeFormAsk : Prop := lawS6229AWholeRow.holds Ybaf.pinned (OpenSpec.ofChange lawS6229AWholeSpec)

/-- ITS FALSE NEIGHBOUR: 'it returns false'. Refute it at one input. -/
def lawS6229AWholeWrong : ChangeSpec := { name := "lawS6229AWhole", vars := ["example.com/cinch/cinch/syntax.keywords", "example.com/cinch/cinch/syntax.operators"], fn := fun _ => fun
  | [d1, d2, d3, d4, d5, d6, d7, d8, g1, g2] => { results := [.lit (.bool false)], args := [d1, d2, d3, d4, d5, d6, d7, d8], vars := [g1, g2] }
  | _ => none }
def LawS6229AWholeWrongFormAsk : Prop := lawS6229AWholeRow.holds Ybaf.pinned (OpenSpec.ofChange lawS6229AWholeWrong)

end Rows
end Go.Proofs.YbulkdxzcFmt
