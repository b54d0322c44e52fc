/- The two probes of a channel (select with a default, one goroutine). -/
import Derived.Test.YbulkdxyaRows
import Derived.Conc.LoneSelect
import Derived.KernelRfl
import Derived.Laws.Rows
namespace Go.Proofs.Ybulkdxya
open Go.Conc Go.RowKit

set_option maxRecDepth 100000 in
/-- zzs6227bclosed on a closed, empty channel: true. -/
theorem closed_shut (c cap s r : Nat) (tm : Bool) (w : World) (hc : w.heap[c]? = some (.chan cap #[] true s r tm)) :
    Calls Yba.prog 5 #[.chan (some c)] w fun e w' => e = .returned (.bool true) ∧ w' = w := by
  refine calls_of_loneTo fun cs => ?_
  have e : Frame.enter Yba.prog 5 #[.chan (some c)] .normal = (base 5).at ⟨#[.chan (some c), undef, undef, undef, undef, undef, undef], []⟩ [.code (Yba.f5.body.getD .skip)] := by
    simp [Frame.enter, Frame.at, Yba.func5, base, Yba.f5]
  rw [e]
  refine LoneTo.goes (n := 20) ?_
  simp only [Yba.f5, Option.getD_some]
  s_c stepG_seq
  s_reg
  s_op
  s_c stepG_region_end
  s_c stepG_seq
  s_reg
  s_op
  s_c stepG_region_end
  s_c stepG_seq
  s_reg
  s_stop
  refine LoneTo.step (step_lone_select_recv_shut (c := c) (z := .agg #[]) (stepG_comm (cases := #[rcase c (.agg #[])]) (blocking := false) (shape := .select) (w' := w) rfl rfl (by decide) (by simp [go_sem, execOp, rcase, Act.eval])) hc) ?_
  rw [Frame.finish_at]
  walk_nrm
  refine LoneTo.goes (n := 12) ?_
  s_op
  s_op
  s_c stepG_region_end
  s_c stepG_block
  s_cond true
  s_c stepG_seq
  s_reg
  s_op
  s_c stepG_region_end
  s_c stepG_ret'
  s_stop
  exact LoneTo.done ⟨.returned (.bool true), _, rfl, ⟨rfl, rfl⟩, rfl, rfl, rfl, rfl, _, Yba.func5, by simp [results, Yba.f5, Frame.at]⟩

set_option maxRecDepth 100000 in
/-- zzs6227bclosedR on an open, empty channel: false. -/
theorem closedR_open (c cap s r : Nat) (tm : Bool) (w : World) (hc : w.heap[c]? = some (.chan cap #[] false s r tm)) :
    Calls Yba.prog 8 #[.chan (some c)] w fun e w' => e = .returned (.bool false) ∧ w' = w := by
  refine calls_of_loneTo fun cs => ?_
  have e : Frame.enter Yba.prog 8 #[.chan (some c)] .normal = (base 8).at ⟨#[.chan (some c), undef, undef, undef, undef, undef, undef, undef, undef, undef, undef, undef, undef], []⟩ [.code (Yba.f8.body.getD .skip)] := by
    simp [Frame.enter, Frame.at, Yba.func8, base, Yba.f8]
  rw [e]
  refine LoneTo.goes (n := 20) ?_
  simp only [Yba.f8, Option.getD_some]
  s_c stepG_seq
  s_reg
  s_op
  s_c stepG_region_end
  s_c stepG_seq
  s_reg
  s_op
  s_c stepG_region_end
  s_c stepG_seq
  s_reg
  s_stop
  refine LoneTo.step (step_lone_select_default (c := c) (z := .agg #[.int .u64 0, .int .u64 0, .bool false]) (stepG_comm (cases := #[rcase c (.agg #[.int .u64 0, .int .u64 0, .bool false])]) (blocking := false) (shape := .select) (w' := w) rfl rfl (by decide) (by simp [go_sem, execOp, rcase, Act.eval])) hc) ?_
  rw [Frame.finish_at]
  walk_nrm
  refine LoneTo.goes (n := 12) ?_
  s_op
  s_op
  s_c stepG_region_end
  s_c stepG_block
  s_cond false
  s_c stepG_seq
  s_reg
  s_op
  s_c stepG_region_end
  s_c stepG_ret'
  s_stop
  exact LoneTo.done ⟨.returned (.bool false), _, rfl, ⟨rfl, rfl⟩, rfl, rfl, rfl, rfl, _, Yba.func8, by simp [results, Yba.f8, Frame.at]⟩
end Go.Proofs.Ybulkdxya
