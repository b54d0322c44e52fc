/- The closed facts on fmt's stopped front at this program. -/
import Derived.Test.YbulkdxzcFmtTok
import Derived.Stop.CallBack
import Derived.Stop.IfaceNil
import GoSem.ClaimData
namespace Go.Proofs.YbulkdxzcFmt
open Go.RowKit
open Go.Extern.Stop Go.Stop Go.Extern
set_option linter.unusedSimpArgs false
set_option linter.unusedVariables false

theorem call12 (args : Array Value) (w : World) : (callFunc 12 args).run Ybaf.prog w = (FmtCalls.sprintf #[9, 74] #[9] args).run Ybaf.prog w :=
  run_callFunc_next Ybaf.func12 (by kernel_rfl) (by kernel_rfl) (by kernel_rfl) args w
theorem guarded (name : String) (w : World) : (FmtStop.guard name).run Ybaf.prog w = .ok () w := by kernel_rfl
theorem nextTurns : Extern.next FmtCalls.turnsRow = some (FmtCalls.begun #[] #[]) := by kernel_rfl
theorem nextReturned : Extern.next FmtCalls.returnedRow = some (FmtCalls.returned #[] #[]) := by kernel_rfl
theorem fmtTok : FmtStop.printed? ⟨#[116, 111, 107, 101, 110, 32, 37, 100]⟩ 1 = some [(0, 100, false)] := by kernel_rfl
theorem fmtExp : FmtStop.printed? ⟨#[101, 120, 112, 101, 99, 116, 101, 100, 32, 37, 115, 44, 32, 102, 111, 117, 110, 100, 32, 37, 115]⟩ 2 = some [(0, 115, false), (1, 115, false)] := by kernel_rfl
def shape3 : List UInt8 := [5, 3, 0, 0, 0, 0, 0, 0, 0, 105, 110, 116]
theorem act3 (name : String) (x : Value) (w : World) : (FmtCalls.act name false 100 false (.iface 3 x)).run Ybaf.prog w = .ok (.closed false) w := by kernel_rfl
theorem op3 (name : String) (x : Int) (w : World) : (FmtStop.operand name false 100 false (.iface 3 (.int .i64 x))).run Ybaf.prog w = .ok (shape3, Go.Extern.Stop.digits 8 (x % 2 ^ 64).toNat) w := by kernel_rfl
theorem act9 (name : String) (x : Value) (w : World) : (FmtCalls.act name false 115 false (.iface 9 x)).run Ybaf.prog w = .ok (.closed false) w := by kernel_rfl
theorem act31 (name : String) (x : Value) (w : World) : (FmtCalls.act name false 115 false (.iface 31 x)).run Ybaf.prog w = .ok (.call false) w := by kernel_rfl
theorem invoke31 (x : Value) (w : World) : (invoke (.fn (.method "String") #[]) #[.iface 31 x]).run Ybaf.prog w = .ok (.enter 13 #[x]) w := by kernel_rfl
theorem str31 (w : World) : (typeStr 31).run Ybaf.prog w = .ok ("synta" ++ "x.token") w := by kernel_rfl
def shape9 : List UInt8 := [12, 6, 0, 0, 0, 0, 0, 0, 0, 115, 116, 114, 105, 110, 103]
theorem op9 (name : String) (x : ByteArray) (w : World) : (FmtStop.operand name false 115 false (.iface 9 (.string x))).run Ybaf.prog w = .ok (shape9, FmtStop.pack x.data.toList) w := by kernel_rfl
end Go.Proofs.YbulkdxzcFmt
