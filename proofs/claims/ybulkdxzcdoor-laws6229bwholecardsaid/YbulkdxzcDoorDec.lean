/- newDecoder, by contract. -/
import Derived.Test.YbulkdxzcDoorEnds
namespace Go.Proofs.YbulkdxzcDoor
open Go.RowKit
set_option linter.unusedSimpArgs false
set_option linter.unusedVariables false

set_option maxRecDepth 100000 in
set_option maxHeartbeats 2000000 in
theorem newDecoder (R cap0 n s : Nat) (a0 : Option Addr) (dv : Nat → Int) (fail wd : Bool) (ea es : Addr) (fp : Option Addr) (w : World) (B0 : Nat)
    (hn : n ≤ 1048576) (hs : 1 ≤ s ∧ s ≤ 16) (hD : Data w a0 n cap0 dv B0) (hB0 : B0 ≤ R) (hRs : R < w.heap.size) (hR0 : 0 ≠ R)
    (hR : w.heap[R]? = some (.cells #[.slice a0 n cap0, .int .i64 (0 : Nat), .int .i64 s, .bool fail, .bool wd, .iface 48 (.pointer (some es))] 29 (0, 0)))
    (he : w.cell? ⟨0, 0, none⟩ = some (.iface 48 (.pointer (some ea))))
    (hne : ∀ W : World, (∀ i, i < w.heap.size → i ≠ R → W.heap[i]? = w.heap[i]?) → (binOp .eql 25 (.iface 48 (.pointer (some es))) (.iface 48 (.pointer (some ea)))).run Ybad.prog W = .ok (.bool false) W) :
    Calls Ybad.prog 6 #[.iface 27 (.pointer (some ⟨R, 0, none⟩)), .pointer fp] w fun e w' => ∃ v w1, Rdone R n #[.slice a0 n cap0, .int .i64 n, .int .i64 s, .bool fail, .bool wd, .iface 48 (.pointer (some es))] dv v w w1 ∧
      if fail = true then e = .returned (.tuple #[.pointer none, .iface 48 (.pointer (some es))]) ∧ w' = w1
      else e = .returned (.tuple #[.pointer (some ⟨w1.heap.size, 0, none⟩), .nilIface]) ∧ w' = w1.alloc (.cells #[v, .int .i64 0, .pointer fp, .slice none 0 0, .slice none 0 0] 46) := by
  have HD : Hid (Data w a0 n cap0 dv B0) := hD
  have HR : Hid (w.heap[R]? = some (.cells #[.slice a0 n cap0, .int .i64 (0 : Nat), .int .i64 s, .bool fail, .bool wd, .iface 48 (.pointer (some es))] 29 (0, 0))) := hR
  have HE : Hid (w.cell? ⟨0, 0, none⟩ = some (.iface 48 (.pointer (some ea)))) := he
  have HQ : Hid (∀ W : World, (∀ i, i < w.heap.size → i ≠ R → W.heap[i]? = w.heap[i]?) → (binOp .eql 25 (.iface 48 (.pointer (some es))) (.iface 48 (.pointer (some ea)))).run Ybad.prog W = .ok (.bool false) W) := hne
  clear hD hR he hne
  go_enter Ybad.func6, Ybad.ntmps6
  cases fail
  all_goals
    go_wp2_with (go_at_call 8; refine (readAll R cap0 n s a0 dv _ wd ea es _ B0 hn hs HD.out hB0 hRs hR0 HR.out HE.out HQ.out).mono ?_; rintro e' w1 ⟨v, rfl, hdn⟩; obtain ⟨ao, cv, rfl, _⟩ := own_form hdn.own; have HN : Hid (Rdone _ _ _ _ _ _ _) := hdn; clear hdn)
    go_ret2
    first
      | exact ⟨_, _, HN.out, rfl, rfl⟩
      | exact ⟨⟨_, HN.out⟩, rfl⟩
end Go.Proofs.YbulkdxzcDoor
