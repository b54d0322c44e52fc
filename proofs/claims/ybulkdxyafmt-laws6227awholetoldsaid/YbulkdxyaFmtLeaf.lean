/- The leafset, fresh; Config.Validate: by contract. -/
import Derived.Test.YbulkdxyaFmtKit
namespace Go.Proofs.YbulkdxyaFmt
open Go.RowKit
set_option linter.unusedSimpArgs false
set_option linter.unusedVariables false

/-- The distance clockwise. -/
def cw (x y : Int) : Int := IntKind.u64.wrap (y - x)
theorem cw_bounds (x y : Int) : 0 ≤ cw x y ∧ cw x y < 18446744073709551616 := by simp [cw, IntKind.wrap, IntKind.bits, IntKind.signed]; omega
set_option maxRecDepth 100000 in
set_option maxHeartbeats 2000000 in
theorem clockwise_calls (x y : Int) (w : World) : Calls Ybaf.prog 60 #[.int .u64 x, .int .u64 y] w fun e w' => e = .returned (.int .u64 (cw x y)) ∧ w = w' := by
  go_enter Ybaf.func60, Ybaf.ntmps60
  go_wp2
  go_ret
  exact ⟨rfl, rfl⟩

set_option maxRecDepth 100000 in
set_option maxHeartbeats 2000000 in
theorem validate_calls (b c p j : Int) (m : Bool) (w : World) (hb : 1 ≤ b ∧ b ≤ 21) (hc : 1 ≤ c ∧ c ≤ b) (hp : 0 < p) (hj : 0 ≤ j) :
    Calls Ybaf.prog 18 #[.agg #[.int .i64 b, .int .i64 c, .int .i64 p, .int .i64 j, .bool m]] w fun e w' => e = .returned .nilIface ∧ Below w.heap.size w w' := by
  obtain ⟨hb1, hb2⟩ := hb
  obtain ⟨hc1, hc2⟩ := hc
  have b1 : ¬ b < 1 := by omega
  have b2 : b ≤ 21 := hb2
  have c1 : ¬ c < 1 := by omega
  have p1 : ¬ p ≤ 0 := by omega
  have j1 : ¬ j < 0 := by omega
  go_enter Ybaf.func18, Ybaf.ntmps18
  go_wp2_with fail
  go_ret
  exact ⟨rfl, (Below.refl _ _).alloc (Nat.le_refl _) _⟩

theorem info76 : (Ybaf.prog.info? 76).map (·.size) = some 16 := by kernel_rfl
theorem make43 (w : World) : (Instr.makeSlice 43 (.int .i64 0) (.int .i64 0)).run Ybaf.prog w = .ok (.slice (some ⟨w.heap.size, 0, none⟩) 0 0) (w.alloc (.cells #[] 50)) := by
  kernel_rfl
/-- A fresh leafset's cells. -/
abbrev lf0 (id b : Int) : Array Value := #[.int .u64 id, .int .i64 b, .slice none 0 0, .slice none 0 0, .slice none 0 0, .slice none 0 0, .slice none 0 0, .slice none 0 0, .int .u64 0, .int .u64 0, .int .i64 0, .int .i64 0, .bool false, .int .i64 0, .bool false, .int .i64 0]
abbrev lf1 (id b : Int) (v : Value) : Array Value := #[.int .u64 id, .int .i64 b, .slice none 0 0, .slice none 0 0, .slice none 0 0, .slice none 0 0, .slice none 0 0, v, .int .u64 18446744073709551615, .int .u64 18446744073709551615, .int .i64 0, .int .i64 0, .bool false, .int .i64 0, .bool false, .int .i64 1]

set_option maxRecDepth 100000 in
set_option maxHeartbeats 4000000 in
theorem update_calls (L : Nat) (id b : Int) (w : World) (hb : 1 ≤ b) (hL : w.heap[L]? = some (.cells (lf0 id b) 76 (0, 0))) :
    Calls Ybaf.prog 37 #[.pointer (some ⟨L, 0, none⟩)] w fun e w' => e = .returned (.tuple #[]) ∧ BStep 76 L (lf1 id b (.slice (some ⟨w.heap.size, 0, none⟩) 0 0)) w w' := by
  have b1 : ¬ b ≤ 0 := by omega
  have HL : Hid (w.heap[L]? = some (.cells (lf0 id b) 76 (0, 0))) := hL
  have hlt : L < w.heap.size := (Array.getElem?_eq_some_iff.1 hL).1
  have c1 : w.cell? ⟨L, 1, none⟩ = some (.int .i64 b) := cell_of hL rfl
  have c2 : w.cell? ⟨L, 2, none⟩ = some (.slice none 0 0) := cell_of hL rfl
  have c7 : w.cell? ⟨L, 7, none⟩ = some (.slice none 0 0) := cell_of hL rfl
  have c8 : w.cell? ⟨L, 8, none⟩ = some (.int .u64 0) := cell_of hL rfl
  have c9 : w.cell? ⟨L, 9, none⟩ = some (.int .u64 0) := cell_of hL rfl
  have c14 : w.cell? ⟨L, 14, none⟩ = some (.bool false) := cell_of hL rfl
  have c15 : w.cell? ⟨L, 15, none⟩ = some (.int .i64 0) := cell_of hL rfl
  have f7 : w.frozen? ⟨L, 7, none⟩ = false := frozen_of hL
  have f8 : w.frozen? ⟨L, 8, none⟩ = false := frozen_of hL
  have f9 : w.frozen? ⟨L, 9, none⟩ = false := frozen_of hL
  have f14 : w.frozen? ⟨L, 14, none⟩ = false := frozen_of hL
  have f15 : w.frozen? ⟨L, 15, none⟩ = false := frozen_of hL
  have mk := make43
  clear hL
  go_enter Ybaf.func37, Ybaf.ntmps37
  go_upto_region 8 with fail
  obtain ⟨W1, HW1⟩ : ∃ W : World, Hid (W = (((((w.setCell ⟨L, 14, none⟩ (.bool false)).setCell ⟨L, 15, none⟩ (.int .i64 1)).setCell ⟨L, 8, none⟩ (.int .u64 18446744073709551615)).setCell ⟨L, 9, none⟩ (.int .u64 18446744073709551615)).alloc (.cells #[] 50))) := ⟨_, rfl⟩
  have HS1 : Hid (BStep 76 L (lf1 id b (.slice none 0 0)) w W1) := by
    rw [HW1.out]
    have h := (((((BStep.refl HL.out).set 14 (.bool false)).set 15 (.int .i64 1)).set 8 (.int .u64 18446744073709551615)).set 9 (.int .u64 18446744073709551615)).alloc (.cells #[] 50)
    simp at h
    exact h
  rw [← HW1.out]
  clear HW1 c1 c2 c7 c8 c9 c14 c15 f7 f8 f9 f14 f15
  have c2 : W1.cell? ⟨L, 2, none⟩ = some (.slice none 0 0) := HS1.out.cell rfl
  have c7 : W1.cell? ⟨L, 7, none⟩ = some (.slice none 0 0) := HS1.out.cell rfl
  have f7 := HS1.out.frozen 7
  go_upto_block 0 with fail
  go_wp2_with fail
  go_loopg [3, 5, 83] 0 (fun k v x i wr => k = 0 ∧ v = .slice (some ⟨w.heap.size, 0, none⟩) 0 0 ∧ i = .int .i64 0 ∧ wr = W1)
  case atStart => exact ⟨rfl, rfl, rfl, rfl⟩
  case round =>
    obtain ⟨rfl, rfl, rfl, rfl⟩ := hrel
    go_wp2_with fail
    go_end0
    refine ⟨rfl, ?_⟩
    have h := HS1.out.set 7 (.slice (some ⟨w.heap.size, 0, none⟩) 0 0)
    simp at h
    exact h

set_option maxRecDepth 100000 in
set_option maxHeartbeats 4000000 in
theorem newLeafset_calls (id b : Int) (w : World) (hb : 1 ≤ b) :
    Calls Ybaf.prog 19 #[.int .u64 id, .int .i64 b] w fun e w' => ∃ vb, e = .returned (.agg (lf1 id b (.slice (some ⟨vb, 0, none⟩) 0 0))) ∧ Below w.heap.size w w' := by
  obtain ⟨W, HW⟩ : ∃ W : World, Hid (W = (w.alloc (.cells (lf0 0 0) 76)).alloc (.cells (lf0 id b) 76)) := ⟨_, rfl⟩
  have HS : Hid (W.heap.size = w.heap.size + 2) := by rw [HW.out]; show _ = _; simp
  have hC := update_calls (w.heap.size + 1) id b W hb (by rw [HW.out]; exact new_at (by simp))
  have HC : Hid (Calls Ybaf.prog 37 _ _ _) := hC
  clear hC
  go_enter Ybaf.func19, Ybaf.ntmps19
  go_upto_region 2 with fail
  rw [← HW.out]
  go_upto_region 3 with (go_at_call 37; refine HC.out.mono ?_; rintro e' w2 ⟨rfl, hst⟩; have HST : Hid (BStep 76 (w.heap.size + 1) _ W w2) := hst; clear hst)
  have hA : w2.heap[w.heap.size + 1]? = some (.cells (lf1 id b (.slice (some ⟨W.heap.size, 0, none⟩) 0 0)) 76 (0, 0)) := HST.out.par
  have hB : w2.heap[w.heap.size]? = some (.cells (lf0 0 0) 76 (0, 0)) := by
    rw [HST.out.other _ (by rw [HS.out]; omega) (by omega), HW.out, Below.heap_alloc _ _ _ (by simp)]
    exact new_at rfl
  obtain ⟨RF, hRF⟩ : ∃ RF, lf1 id b (.slice (some ⟨W.heap.size, 0, none⟩) 0 0) = RF := ⟨_, rfl⟩
  have hRs : RF.size = 16 := by rw [← hRF]; rfl
  have hone : RF.all (·.oneCell') = true := by rw [← hRF]; simp [Value.oneCell']
  rw [hRF] at hA
  have hinf : (Ybaf.prog.info? 76).map (·.size) = some RF.size := by rw [hRs]; exact info76
  have hb2 : Below w.heap.size w w2 := by
    have h1 : Below w.heap.size w W := by rw [HW.out]; exact ((Below.refl _ _).alloc (Nat.le_refl _) _).alloc (by simp) _
    exact h1.trans (HST.out.below w.heap.size (by omega))
  obtain ⟨e1, e2, e3, e4⟩ := hand_row (g := 0) hB (by rw [hRs]; rfl) hb2
  have HE : Hid (lf1 id b (.slice (some ⟨W.heap.size, 0, none⟩) 0 0) = RF ∧ w2.heap[w.heap.size + 1]? = some (.cells RF 76 (0, 0)) ∧ w2.there w.heap.size 0 RF.size ∧ (w2.setCells w.heap.size 0 RF.toList).heap[w.heap.size]? = some (.cells RF 76 (0, 0)) ∧ Below w.heap.size w (w2.setCells w.heap.size 0 RF.toList)) := ⟨hRF, hA, e1, e2, e3⟩
  clear hA hB hRF hb2 e1 e2 e3 e4 HST HC
  go_wp2_with (first
    | refine wpList_load_row rfl 76 (.tmp 5) rfl (w.heap.size + 1) rfl 76 RF (0, 0) _ HE.out.2.1 Ybaf.underlying76 rfl hinf ?_
    | refine wpList_store_mid rfl 76 (.tmp 4) (.tmp 10) rfl w.heap.size 0 RF rfl rfl HE.out.2.2.1 hinf hone ?_)
  refine bodyPost_ret (results_cell_row (p := 4) (ty := 76) (by kernel_rfl) _ _ w.heap.size 76 RF (0, 0) _ rfl HE.out.2.2.2.1 Ybaf.underlying76 rfl hinf) rfl ?_
  exact ⟨W.heap.size, by rw [HE.out.1], HE.out.2.2.2.2⟩
end Go.Proofs.YbulkdxyaFmt
