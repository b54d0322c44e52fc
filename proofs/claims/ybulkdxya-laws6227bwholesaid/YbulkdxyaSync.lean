/- The contracts of the sync functions on the law's road, one goroutine, over this dump's own numbers. -/
import Derived.Test.YbulkdxyaRows
import Derived.WalkKit
import Derived.Laws.Pointers
import Derived.Laws.LoneSync
namespace Go.Proofs.Ybulkdxya

theorem disable (w : World) : (callFunc 14 #[]).run Yba.prog w = .ok (.value (.tuple #[])) w := run_call_mark0 Yba.func14 (by kernel_rfl) (by kernel_rfl) (by kernel_rfl) .disable (by kernel_rfl) w
theorem enable (w : World) : (callFunc 16 #[]).run Yba.prog w = .ok (.value (.tuple #[])) w := run_call_mark0 Yba.func16 (by kernel_rfl) (by kernel_rfl) (by kernel_rfl) .enable (by kernel_rfl) w
theorem acquire (a : Addr) (w : World) : (callFunc 17 #[.pointer (some a)]).run Yba.prog w = .ok (.value (.tuple #[])) w := run_call_marked Yba.func17 (by kernel_rfl) (by kernel_rfl) (by kernel_rfl) .acquire (by kernel_rfl) a w
theorem releaseMerge (a : Addr) (w : World) : (callFunc 25 #[.pointer (some a)]).run Yba.prog w = .ok (.value (.tuple #[])) w := run_call_marked Yba.func25 (by kernel_rfl) (by kernel_rfl) (by kernel_rfl) .releaseMerge (by kernel_rfl) a w

/-- What a conversion of a pointer comes to, the two types' tests behind it. -/
def shown (t : TypeId) (a : Addr) : Sem Value := do
  let s ← Conv.seenAt a
  let nothing := match ← cellsIn s.block with
    | some cells => s.off ≥ cells && s.spot.isNone
    | none => false
  if (← sizeOf t) = 0 || nothing then pure (.pointer (some ⟨← newObj (.view s t), 0, none⟩)) else
  pure (.pointer (some s))
theorem run_shown {t : TypeId} (hsz : (Yba.prog.info? t).map (fun i => decide (i.size = 0)) = some false)
    {a : Addr} {v : Value} {w : World} (hc : w.cell? a = some v) : (shown t a).run Yba.prog w = .ok (.pointer (some a)) w := by
  obtain ⟨e, n, hsh, hlt, hsp⟩ := World.shape?_of_cell? hc
  obtain ⟨i, hi, hz0⟩ := Option.map_eq_some_iff.1 hsz
  have hz : i.size ≠ 0 := by simpa using hz0
  have hge : ¬ (n ≤ a.off) := by omega
  simp [shown, Conv.seenAt, viewAt, cellsIn, sizeOf, typeInfo, hi, hz, hsh, hge, Result.andThen]
theorem conv_mutex {a : Addr} {v : Value} {w : World} (hc : w.cell? a = some v) : (convert 101 38 (.pointer (some a))).run Yba.prog w = .ok (.pointer (some a)) w :=
  (show (convert 101 38 (.pointer (some a))).run Yba.prog w = (shown 53 a).run Yba.prog w by kernel_rfl).trans (run_shown (by kernel_rfl) hc)
theorem conv_group {a : Addr} {v : Value} {w : World} (hc : w.cell? a = some v) : (convert 92 38 (.pointer (some a))).run Yba.prog w = .ok (.pointer (some a)) w :=
  (show (convert 92 38 (.pointer (some a))).run Yba.prog w = (shown 62 a).run Yba.prog w by kernel_rfl).trans (run_shown (by kernel_rfl) hc)

set_option maxRecDepth 100000 in
set_option maxHeartbeats 800000 in
theorem lock_free (b off : Nat) (w : World) (h0 : w.cell? ⟨b, off, none⟩ = some (.int .i32 0)) (f0 : w.frozen? ⟨b, off, none⟩ = false) :
    Calls Yba.prog 9 #[.pointer (some ⟨b, off, none⟩)] w fun e w' => e = .returned (.tuple #[]) ∧ w' = w.setCell ⟨b, off, none⟩ (.int .i32 1) := by
  have hd := disable
  have he := enable
  have ha := acquire
  have hcas := run_call_cas_hit (P := Yba.prog) Yba.func24 (by kernel_rfl) (by kernel_rfl) (by kernel_rfl) .i32 (by kernel_rfl) (y := 1) h0 f0
  have h0' : (w.setCell ⟨b, off, none⟩ (.int .i32 1)).cell? ⟨b, off, none⟩ = some (.int .i32 1) := by simp [go_sem, h0]
  have hcv := conv_mutex h0'
  go_enter Yba.func9, Yba.ntmps9
  go_wp2
  first | go_end0 | (simp only [Exit.inBlock, Exit.then]; refine bodyPost_ret (results_none rfl _ _ _) rfl ?_) | refine bodyPost_ret (results_none rfl _ _ _) rfl ?_
  go_wp2
  go_end0
  exact ⟨rfl, rfl⟩

set_option maxRecDepth 100000 in
set_option maxHeartbeats 800000 in
theorem unlock_held (b off : Nat) (w : World) (hc : w.cell? ⟨b, off, none⟩ = some (.int .i32 1)) (hz : w.frozen? ⟨b, off, none⟩ = false) :
    Calls Yba.prog 7 #[.pointer (some ⟨b, off, none⟩)] w fun e w' => e = .returned (.tuple #[]) ∧ w' = w.setCell ⟨b, off, none⟩ (.int .i32 0) := by
  have hd := disable
  have he := enable
  have hr := releaseMerge
  have hcv := conv_mutex hc
  have hadd := run_call_add (P := Yba.prog) Yba.func26 (by kernel_rfl) (by kernel_rfl) (by kernel_rfl) .i32 (by kernel_rfl) (y := -1) (s := 0) hc hz (by simp [go_sem]; rfl)
  go_enter Yba.func7, Yba.ntmps7
  go_wp2
  go_end0
  go_wp2
  go_end0
  exact ⟨rfl, rfl⟩

set_option maxRecDepth 100000 in
set_option maxHeartbeats 800000 in
theorem trylock_free (b off : Nat) (w : World) (h0 : w.cell? ⟨b, off, none⟩ = some (.int .i32 0)) (f0 : w.frozen? ⟨b, off, none⟩ = false) :
    Calls Yba.prog 6 #[.pointer (some ⟨b, off, none⟩)] w fun e w' => e = .returned (.bool true) ∧ w' = w.setCell ⟨b, off, none⟩ (.int .i32 1) := by
  have hd := disable
  have he := enable
  have ha := acquire
  have hcas := run_call_cas_hit (P := Yba.prog) Yba.func24 (by kernel_rfl) (by kernel_rfl) (by kernel_rfl) .i32 (by kernel_rfl) (y := 1) h0 f0
  have h0' : (w.setCell ⟨b, off, none⟩ (.int .i32 1)).cell? ⟨b, off, none⟩ = some (.int .i32 1) := by simp [go_sem, h0]
  have hcv := conv_mutex h0'
  go_enter Yba.func6, Yba.ntmps6
  go_wp2
  go_ret
  exact ⟨rfl, rfl⟩

set_option maxRecDepth 100000 in
set_option maxHeartbeats 800000 in
theorem wait_none (b off : Nat) (w : World) (h0 : w.cell? ⟨b, off, none⟩ = some (.int .u64 0)) :
    Calls Yba.prog 10 #[.pointer (some ⟨b, off, none⟩)] w fun e w' => e = .returned (.tuple #[]) ∧ w' = w := by
  have hd := disable
  have he := enable
  have ha := acquire
  have hcv := conv_group h0
  have hl := run_call_load (P := Yba.prog) Yba.func29 (by kernel_rfl) (by kernel_rfl) (by kernel_rfl) .u64 (by kernel_rfl) h0
  go_enter Yba.func10, Yba.ntmps10
  go_wp2
  refine wp_loop_rounds 1 ?_
  rw [rounds_succ]
  go_wp2
  first | go_end0 | (simp only [Exit.inBlock, Exit.then]; refine bodyPost_ret (results_none rfl _ _ _) rfl ?_) | refine bodyPost_ret (results_none rfl _ _ _) rfl ?_
  exact ⟨rfl, rfl⟩
end Go.Proofs.Ybulkdxya
