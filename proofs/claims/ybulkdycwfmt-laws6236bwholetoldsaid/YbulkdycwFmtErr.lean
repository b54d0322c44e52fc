/- Errors: fmt.Errorf, errors.New: some error, nothing old turned. -/
import Derived.Test.YbulkdycwFmtLen
import Derived.Stop.CallBack
import Derived.Stop.IfaceNil
import GoSem.ClaimData
namespace Go.Proofs.YbulkdycwFmt
open Go.RowKit
open Go.Extern.Stop Go.Stop Go.Extern
set_option linter.unusedSimpArgs false
set_option linter.unusedVariables false

theorem call16 (args : Array Value) (w : World) : (callFunc 16 args).run Ybaf.prog w = (FmtCalls.errorf #[9, 58] #[41] args).run Ybaf.prog w :=
  run_callFunc_next Ybaf.func16 (by kernel_rfl) (by kernel_rfl) (by kernel_rfl) args w
theorem guarded (name : String) (w : World) : (FmtStop.guard name).run Ybaf.prog w = .ok () w := by kernel_rfl
theorem nextTurns : Extern.next FmtCalls.turnsRow = some (FmtCalls.begun #[] #[]) := by kernel_rfl
theorem nextReturned : Extern.next FmtCalls.returnedRow = some (FmtCalls.returned #[] #[]) := by kernel_rfl
def shape3 : List UInt8 := [5, 3, 0, 0, 0, 0, 0, 0, 0, 105, 110, 116]
theorem act3 (name : String) (x : Value) (w : World) : (FmtCalls.act name true 100 false (.iface 3 x)).run Ybaf.prog w = .ok (.closed true) w := by kernel_rfl
theorem op3 (name : String) (x : Int) (w : World) : (FmtStop.operand name true 100 false (.iface 3 (.int .i64 x))).run Ybaf.prog w = .ok (shape3, Go.Extern.Stop.digits 8 (x % 2 ^ 64).toNat) w := by kernel_rfl
theorem act5 (name : String) (x : Value) (w : World) : (FmtCalls.act name true 100 false (.iface 5 x)).run Ybaf.prog w = .ok (.closed true) w := by kernel_rfl
def shape5 : List UInt8 := [6, 5, 0, 0, 0, 0, 0, 0, 0, 117, 105, 110, 116, 56]
theorem op5 (name : String) (x : Int) (w : World) : (FmtStop.operand name true 100 false (.iface 5 (.int .u8 x))).run Ybaf.prog w = .ok (shape5, Go.Extern.Stop.digits 8 (x % 2 ^ 64).toNat) w := by kernel_rfl
theorem act37 (name : String) (x : Value) (w : World) : (FmtCalls.act name true 115 false (.iface 37 x)).run Ybaf.prog w = .ok (.call false) w := by kernel_rfl
theorem invoke37 (x : Value) (w : World) : (invoke (.fn (.method "String") #[]) #[.iface 37 x]).run Ybaf.prog w = .ok (.enter 22 #[x]) w := by kernel_rfl
theorem str37 (w : World) : (typeStr 37).run Ybaf.prog w = .ok "hopmark.TraceType" w := by kernel_rfl
theorem ptrEs (w : World) : (FmtStop.ptrTo "errors.errorString").run Ybaf.prog w = .ok 66 w := by kernel_rfl
theorem elem66 (w : World) : (elemOf 66).run Ybaf.prog w = .ok 68 w := by kernel_rfl

/-- A number among the operands. -/
def Opd (x : Value) : Prop := (∃ a, x = .iface 3 (.int .i64 a)) ∨ (∃ a, x = .iface 5 (.int .u8 a))

set_option maxRecDepth 100000 in
set_option maxHeartbeats 2000000 in
theorem errorf2_calls (F : Interp) (fm : ByteArray) (hp : ∀ w : World, (FmtDoors.printed fm 2).run Ybaf.prog w = .ok [(0, 100, false), (1, 100, false)] w) (x0 x1 : Value) (h0 : Opd x0) (h1 : Opd x1) (b : Nat) (w : World) (hF : F.answers w.tape)
    (c0 : w.cell? ⟨b, 0, none⟩ = some x0) (c1 : w.cell? ⟨b, 1, none⟩ = some x1) :
    Calls Ybaf.prog 10 #[.string fm, .slice (some ⟨b, 0, none⟩) 2 2] w fun e w' => (∃ t x, e = .returned (.iface t x)) ∧ Below w.heap.size w w' := by
  have hF' := answers_open hF
  have q1 := call16
  have q2 := guarded
  have q4 := act3
  have q5 := op3
  have q6 := act5
  have q7 := op5
  have q8 := ptrEs
  have q9 := elem66
  go_enter Ybaf.func10, Ybaf.ntmps10
  rcases h0 with ⟨a0, rfl⟩ | ⟨a0, rfl⟩ <;> rcases h1 with ⟨a1, rfl⟩ | ⟨a1, rfl⟩
  all_goals
    go_wp2
    apply rows_value nextTurns
    case hr =>
      go_simp
      exact ⟨rfl, rfl⟩
    case h =>
      go_wp2
      go_ret
      exact ⟨⟨_, _, rfl⟩, ((Below.refl _ _).alloc (Nat.le_refl _) _).drew⟩

set_option maxRecDepth 100000 in
set_option maxHeartbeats 2000000 in
theorem new_calls (s : ByteArray) (w : World) : Calls Ybaf.prog 17 #[.string s] w fun e w' => (∃ t x, e = .returned (.iface t x)) ∧ Below w.heap.size w w' := by
  go_enter Ybaf.func17, Ybaf.ntmps17
  go_wp2
  go_ret
  exact ⟨⟨_, _, rfl⟩, (Below.refl _ _).alloc (Nat.le_refl _) _⟩
end Go.Proofs.YbulkdycwFmt
