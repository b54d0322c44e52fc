/- Node.send: by contract. -/
import Derived.Test.YbulkdxyaFmtSend
namespace Go.Proofs.YbulkdxyaFmt
open Go.RowKit
set_option linter.unusedSimpArgs false
set_option linter.unusedVariables false

theorem method_send (a : Addr) (w : World) : (method 396 66 (.pointer (some a)) "Send").run Ybaf.prog w = .ok (149, .pointer (some a)) w := by kernel_rfl
/-- A message's cells. -/
abbrev msg (fr : Int) (lk : Bool) (rf ky : Int) (v : Value) : Array Value := #[.int .u8 3, .int .u64 fr, .bool false, .bool lk, .int .u64 rf, .int .u64 ky, .bool true, v, .int .i64 0, .int .i64 0, .bool true, .int .u64 0]

set_option maxRecDepth 100000 in
set_option maxHeartbeats 4000000 in
theorem send_left (N mb : Nat) (dst rf ky : Int) (lk : Bool) (v : Value) (la : Addr) (w : World) (c254 : w.cell? ⟨N, 254, none⟩ = some (.pointer (some la))) (hm : w.cell? ⟨mb, 0, none⟩ = some (.int .u8 3)) :
    Calls Ybaf.prog 24 #[.pointer (some ⟨N, 0, none⟩), .int .u64 dst, .pointer (some ⟨mb, 0, none⟩)] w fun e w' => e = .returned (.tuple #[]) ∧ w = w' := by
  go_enter Ybaf.func24, Ybaf.ntmps24
  go_wp2_with fail
  refine bodyPost_ret (results_none rfl _ _ _) rfl ?_
  exact ⟨rfl, rfl⟩

set_option maxRecDepth 100000 in
set_option maxHeartbeats 4000000 in
theorem send_on (N mb H : Nat) (id dst rf ky : Int) (lk : Bool) (v : Value) (w : World) (c254 : w.cell? ⟨N, 254, none⟩ = some (.pointer none)) (c0 : w.cell? ⟨N, 0, none⟩ = some (.int .u64 id)) (c11 : w.cell? ⟨N, 11, none⟩ = some (.bool false)) (c6 : w.cell? ⟨N, 6, none⟩ = some (.iface 66 (.pointer (some ⟨H, 0, none⟩)))) (hm : w.heap[mb]? = some (.cells (msg 0 lk rf ky v) 112 (0, 0))) (hne : N ≠ mb) (R : World → World → Prop)
    (HS : Calls Ybaf.prog 149 #[.pointer (some ⟨H, 0, none⟩), .int .u64 dst, .pointer (some ⟨mb, 0, none⟩)] ((w.setCell ⟨mb, 1, none⟩ (.int .u64 id)).setCell ⟨mb, 2, none⟩ (.bool false)) fun e w' => e = .returned (.tuple #[]) ∧ R ((w.setCell ⟨mb, 1, none⟩ (.int .u64 id)).setCell ⟨mb, 2, none⟩ (.bool false)) w') :
    Calls Ybaf.prog 24 #[.pointer (some ⟨N, 0, none⟩), .int .u64 dst, .pointer (some ⟨mb, 0, none⟩)] w fun e w' => e = .returned (.tuple #[]) ∧ R ((w.setCell ⟨mb, 1, none⟩ (.int .u64 id)).setCell ⟨mb, 2, none⟩ (.bool false)) w' := by
  have HS' : Hid (Calls Ybaf.prog 149 _ _ _) := HS
  have m0 : w.cell? ⟨mb, 0, none⟩ = some (.int .u8 3) := cell_of hm rfl
  have m1 : w.cell? ⟨mb, 1, none⟩ = some (.int .u64 0) := cell_of hm rfl
  have m2 : w.cell? ⟨mb, 2, none⟩ = some (.bool false) := cell_of hm rfl
  have f1 : w.frozen? ⟨mb, 1, none⟩ = false := frozen_of hm
  have f2 : w.frozen? ⟨mb, 2, none⟩ = false := frozen_of hm
  have hmt := method_send
  clear HS hm
  go_enter Ybaf.func24, Ybaf.ntmps24
  go_wp2_with (go_at_call 149; refine HS'.out.mono ?_; rintro e' w2 ⟨rfl, hr⟩; have HR : Hid (R _ w2) := hr; clear hr)
  go_end0
  exact ⟨rfl, HR.out⟩
end Go.Proofs.YbulkdxyaFmt
