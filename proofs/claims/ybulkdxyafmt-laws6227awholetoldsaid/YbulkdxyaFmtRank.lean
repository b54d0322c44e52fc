/- The ranking: by contract. -/
import Derived.Test.YbulkdxyaFmtNew
import Derived.Laws.CopyOwn
namespace Go.Proofs.YbulkdxyaFmt
open Go.RowKit
set_option linter.unusedSimpArgs false
set_option linter.unusedVariables false

set_option maxRecDepth 100000 in
set_option maxHeartbeats 2000000 in
theorem contains_none (p : Option Addr) (c : Nat) (x : Int) (w : World) : Calls Ybaf.prog 40 #[.slice p 0 c, .int .u64 x] w fun e w' => e = .returned (.bool false) ∧ w = w' := by
  have H : Hid (Calls Ybaf.prog 63 #[.slice p 0 c, .int .u64 x] w fun e w' => e = .returned (.int .i64 (-1)) ∧ w = w') := by
    show Calls _ _ _ _ _
    go_enter Ybaf.func63, Ybaf.ntmps63
    go_wp2_with fail
    go_loopg [5, 8] 0 (fun k x i wr => k = 0 ∧ i = .int .i64 0 ∧ wr = w)
    case atStart => exact ⟨rfl, rfl, rfl⟩
    case round =>
      obtain ⟨rfl, rfl, rfl⟩ := hrel
      go_wp2_with fail
      go_ret
      exact ⟨rfl, rfl⟩
  go_enter Ybaf.func40, Ybaf.ntmps40
  go_wp2_with (go_at_call 63; refine H.out.mono ?_; rintro e' w' ⟨rfl, rfl⟩)
  go_ret
  exact ⟨rfl, rfl⟩

set_option maxRecDepth 100000 in
set_option maxHeartbeats 2000000 in
theorem contains_one (bb c : Nat) (x : Int) (w : World) (hb : w.cell? ⟨bb, 0, none⟩ = some (.int .u64 x)) : Calls Ybaf.prog 40 #[.slice (some ⟨bb, 0, none⟩) 1 c, .int .u64 x] w fun e w' => e = .returned (.bool true) ∧ w = w' := by
  have H : Hid (Calls Ybaf.prog 63 #[.slice (some ⟨bb, 0, none⟩) 1 c, .int .u64 x] w fun e w' => e = .returned (.int .i64 0) ∧ w = w') := by
    show Calls _ _ _ _ _
    have hq : (x == x) = true := by simp
    go_enter Ybaf.func63, Ybaf.ntmps63
    go_wp2_with fail
    go_loopg [5, 8] 0 (fun k x i wr => k = 0 ∧ i = .int .i64 0 ∧ wr = w)
    case atStart => exact ⟨rfl, rfl, rfl⟩
    case round =>
      obtain ⟨rfl, rfl, rfl⟩ := hrel
      go_wp2_with fail
      go_ret
      exact ⟨rfl, rfl⟩
  go_enter Ybaf.func40, Ybaf.ntmps40
  go_wp2_with (go_at_call 63; refine H.out.mono ?_; rintro e' w' ⟨rfl, rfl⟩)
  go_ret
  exact ⟨rfl, rfl⟩

theorem make43_1 (w : World) : (Instr.makeSlice 43 (.int .i64 0) (.int .i64 1)).run Ybaf.prog w = .ok (.slice (some ⟨w.heap.size, 0, none⟩) 0 1) (w.alloc (.cells #[.int .u64 0] 50)) := by
  kernel_rfl
theorem info150 : (Ybaf.prog.info? 150).map (·.size) = some 2 := by kernel_rfl
set_option maxRecDepth 100000 in
set_option maxHeartbeats 2000000 in
theorem newRanking_calls (key : Int) (w : World) : Calls Ybaf.prog 44 #[.int .u64 key, .int .i64 1] w fun e w' => ∃ bb, e = .returned (.agg #[.int .u64 key, .slice (some ⟨bb, 0, none⟩) 0 1]) ∧ w.heap.size ≤ bb ∧ w'.heap[bb]? = some (.cells #[.int .u64 0] 50 (0, 0)) ∧ Below w.heap.size w w' := by
  have mk := make43_1
  go_enter Ybaf.func44, Ybaf.ntmps44
  go_wp2_with fail
  refine bodyPost_ret (results_cell_row (p := 4) (ty := 150) (by kernel_rfl) _ _ w.heap.size 150 #[.int .u64 key, .slice (some ⟨w.heap.size + 1, 0, none⟩) 0 1] (0, 0) _ rfl (by rw [Below.heap_alloc _ _ _ (by simp)]; exact new_at rfl) Ybaf.underlying150 rfl info150) rfl ?_
  exact ⟨w.heap.size + 1, rfl, by omega, new_at (by simp), ((Below.refl _ _).alloc (Nat.le_refl _) _).alloc (by simp) _⟩

set_option maxRecDepth 100000 in
set_option maxHeartbeats 2000000 in
theorem wants_calls (rb bb : Nat) (key x : Int) (w : World) (c1 : w.cell? ⟨rb, 1, none⟩ = some (.slice (some ⟨bb, 0, none⟩) 0 1)) :
    Calls Ybaf.prog 47 #[.pointer (some ⟨rb, 0, none⟩), .int .u64 x] w fun e w' => e = .returned (.bool true) ∧ ∃ q, w' = w.drewN q := by
  have HC : Hid (∀ w, Calls Ybaf.prog 40 #[.slice (some ⟨bb, 0, none⟩) 0 1, .int .u64 x] w fun e w' => e = .returned (.bool false) ∧ w = w') := fun w => contains_none _ _ _ _
  go_enter Ybaf.func47, Ybaf.ntmps47
  go_upto_region 2 with fail
  go_quiet (fail)
  go_wp2_with (go_at_call 40; refine (HC.out _).mono ?_; rintro e' w' ⟨rfl, rfl⟩)
  go_ret
  exact ⟨rfl, nq, rfl⟩

theorem inf50 : (Ybaf.prog.info? 50).map (·.size) = some 1 := by kernel_rfl
theorem copy43 (bb : Nat) (W : World) : (Builtin.copy_ #[43, 43] 3 #[.slice (some ⟨bb, 0, none⟩) 0 0, .slice (some ⟨bb, 0, none⟩) 1 1]).run Ybaf.prog W = .ok (.int .i64 0) W :=
  run_copy_none (P := Ybaf.prog) W 43 43 3 50 _ _ 0 0 1 1 Ybaf.underlying43 inf50 rfl
theorem rk_facts {w : World} {rb bb : Nat} {key : Int} (hr : w.heap[rb]? = some (.cells #[.int .u64 key, .slice (some ⟨bb, 0, none⟩) 0 1] 150 (0, 0))) (hb : w.heap[bb]? = some (.cells #[.int .u64 0] 50 (0, 0))) :
    w.cell? ⟨rb, 0, none⟩ = some (.int .u64 key) ∧ w.cell? ⟨rb, 1, none⟩ = some (.slice (some ⟨bb, 0, none⟩) 0 1) ∧ w.cell? ⟨bb, 0, none⟩ = some (.int .u64 0) ∧ w.frozen? ⟨rb, 1, none⟩ = false ∧ w.frozen? ⟨bb, 0, none⟩ = false :=
  ⟨cell_of hr rfl, cell_of hr rfl, cell_of hb rfl, frozen_of hr, frozen_of hb⟩
set_option maxRecDepth 100000 in
set_option maxHeartbeats 2000000 in
theorem offer_calls (rb bb : Nat) (key x : Int) (w : World) (hr : w.heap[rb]? = some (.cells #[.int .u64 key, .slice (some ⟨bb, 0, none⟩) 0 1] 150 (0, 0))) (hb : w.heap[bb]? = some (.cells #[.int .u64 0] 50 (0, 0))) :
    Calls Ybaf.prog 45 #[.pointer (some ⟨rb, 0, none⟩), .int .u64 x] w fun e w' => e = .returned (.tuple #[]) ∧ w'.heap[rb]? = some (.cells #[.int .u64 key, .slice (some ⟨bb, 0, none⟩) 1 1] 150 (0, 0)) ∧ w'.heap[bb]? = some (.cells #[.int .u64 x] 50 (0, 0)) ∧ ∀ B, B ≤ rb → B ≤ bb → B ≤ w.heap.size → Below B w w' := by
  have c0 : w.cell? ⟨rb, 0, none⟩ = some (.int .u64 key) := cell_of hr rfl
  have c1 : w.cell? ⟨rb, 1, none⟩ = some (.slice (some ⟨bb, 0, none⟩) 0 1) := cell_of hr rfl
  have d0 : w.cell? ⟨bb, 0, none⟩ = some (.int .u64 0) := cell_of hb rfl
  have f1 : w.frozen? ⟨rb, 1, none⟩ = false := frozen_of hr
  have g0 : w.frozen? ⟨bb, 0, none⟩ = false := frozen_of hb
  have hlr : rb < w.heap.size := (Array.getElem?_eq_some_iff.1 hr).1
  have hlb : bb < w.heap.size := (Array.getElem?_eq_some_iff.1 hb).1
  have HR : Hid (_ = _) := hr
  have HB : Hid (_ = _) := hb
  have hne : rb ≠ bb := fun e => by subst e; rw [hr] at hb; cases hb
  clear hr hb
  go_enter Ybaf.func45, Ybaf.ntmps45
  go_upto_region 1 with (go_at_call 47; refine (wants_calls rb bb key x w c1).mono ?_; rintro e' w1 ⟨rfl, q, hq⟩; have HQ : Hid (w1 = w.drewN q) := hq; clear hq)
  have hr1 : w1.heap[rb]? = some (.cells #[.int .u64 key, .slice (some ⟨bb, 0, none⟩) 0 1] 150 (0, 0)) := by rw [HQ.out]; exact HR.out
  have hb1 : w1.heap[bb]? = some (.cells #[.int .u64 0] 50 (0, 0)) := by rw [HQ.out]; exact HB.out
  have hB1 : ∀ B, Below B w w1 := fun B => by rw [HQ.out]; exact below_drewN (Below.refl _ _) _
  have HB1 : Hid (∀ B, Below B w w1) := hB1
  clear c0 c1 d0 f1 g0 hB1
  obtain ⟨c0, c1, d0, f1, g0⟩ := rk_facts hr1 hb1
  have HX : Hid (w1.heap[rb]? = some (.cells #[.int .u64 key, .slice (some ⟨bb, 0, none⟩) 0 1] 150 (0, 0)) ∧ w1.heap[bb]? = some (.cells #[.int .u64 0] 50 (0, 0))) := ⟨hr1, hb1⟩
  clear hr1 hb1
  go_upto_region 3 with (go_at_call 60; refine (clockwise_calls _ _ _).mono ?_; rintro e' w' ⟨rfl, rfl⟩)
  go_loopg [5] 0 (fun k i wr => k = 0 ∧ i = .int .i64 0 ∧ Hid (wr.heap = w1.heap ∧ ∀ B, Below B w1 wr))
  case atStart => exact ⟨rfl, rfl, rfl, fun B => Below.refl _ _⟩
  case round =>
    obtain ⟨rfl, rfl, HL⟩ := hrel
    clear c0 c1 d0 f1 g0
    obtain ⟨c0, c1, d0, f1, g0⟩ := rk_facts (w := wr) (by rw [HL.out.1]; exact HX.out.1) (by rw [HL.out.1]; exact HX.out.2)
    go_upto_region 3 with fail
    go_quiet (fail)
    obtain ⟨w2, HW2⟩ : ∃ W : World, Hid (W = wr.drewN nq) := ⟨_, rfl⟩
    rw [← HW2.out]
    have HL2 : Hid (w2.heap = w1.heap ∧ ∀ B, Below B w1 w2) := ⟨by rw [HW2.out]; exact HL.out.1, fun B => by rw [HW2.out]; exact below_drewN (HL.out.2 B) _⟩
    clear c0 c1 d0 f1 g0 HW2
    obtain ⟨c0, c1, d0, f1, g0⟩ := rk_facts (w := w2) (by rw [HL2.out.1]; exact HX.out.1) (by rw [HL2.out.1]; exact HX.out.2)
    go_upto_region 5 with fail
    go_quiet (fail)
    rename_i nq2
    obtain ⟨w3, HW3⟩ : ∃ W : World, Hid (W = w2.drewN nq) := ⟨_, rfl⟩
    rw [← HW3.out]
    have HL3 : Hid (w3.heap = w1.heap ∧ ∀ B, Below B w1 w3) := ⟨by rw [HW3.out]; exact HL2.out.1, fun B => by rw [HW3.out]; exact below_drewN (HL2.out.2 B) _⟩
    clear c0 c1 d0 f1 g0 HW3
    have hr3 : w3.heap[rb]? = some (.cells #[.int .u64 key, .slice (some ⟨bb, 0, none⟩) 0 1] 150 (0, 0)) := by rw [HL3.out.1]; exact HX.out.1
    have hb3 : w3.heap[bb]? = some (.cells #[.int .u64 0] 50 (0, 0)) := by rw [HL3.out.1]; exact HX.out.2
    have hlr3 : rb < w3.heap.size := (Array.getElem?_eq_some_iff.1 hr3).1
    have hlb3 : bb < w3.heap.size := (Array.getElem?_eq_some_iff.1 hb3).1
    obtain ⟨c0, c1, d0, f1, g0⟩ := rk_facts hr3 hb3
    have HX3 : Hid (_ ∧ _) := ⟨hr3, hb3⟩
    clear hr3 hb3
    go_upto_region 6 with fail
    go_upto_region 7 with fail
    have hcp := copy43 bb
    go_region
    all_goals go_wp2_with fail
    all_goals go_end0
    all_goals
    have k1 : (w3.setCell ⟨bb, 0, none⟩ (.int .u64 0)).heap[bb]? = some (.cells #[.int .u64 0] 50 (0, 0)) := heap_setCell_same w3 bb 0 _ 50 (.int .u64 0) HX3.out.2
    have k2 : (w3.setCell ⟨bb, 0, none⟩ (.int .u64 0)).heap[rb]? = some (.cells #[.int .u64 key, .slice (some ⟨bb, 0, none⟩) 0 1] 150 (0, 0)) := (Below.heap_setCell _ _ _ _ hne).trans HX3.out.1
    have k3 := heap_setCell_same (w3.setCell ⟨bb, 0, none⟩ (.int .u64 0)) rb 1 _ 150 (.slice (some ⟨bb, 0, none⟩) 1 1) k2
    have k4 : ((w3.setCell ⟨bb, 0, none⟩ (.int .u64 0)).setCell ⟨rb, 1, none⟩ (.slice (some ⟨bb, 0, none⟩) 1 1)).heap[bb]? = some (.cells #[.int .u64 0] 50 (0, 0)) := (Below.heap_setCell _ _ _ _ (Ne.symm hne)).trans k1
    have k5 := heap_setCell_same _ bb 0 _ 50 (.int .u64 x) k4
    have k6 := (Below.heap_setCell ((w3.setCell ⟨bb, 0, none⟩ (.int .u64 0)).setCell ⟨rb, 1, none⟩ (.slice (some ⟨bb, 0, none⟩) 1 1)) ⟨bb, 0, none⟩ (.int .u64 x) rb hne).trans k3
    refine ⟨rfl, ?_, ?_, fun B h1 h2 h3 => ?_⟩
    · refine (Below.heap_alloc _ _ _ (by simpa using hlr3)).trans ?_
      simpa using k6
    · refine (Below.heap_alloc _ _ _ (by simpa using hlb3)).trans ?_
      simpa using k5
    · have hs : w.heap.size ≤ w3.heap.size := Nat.le_trans (HB1.out 0).size (HL3.out.2 0).size
      exact (((((((HB1.out B).trans (HL3.out.2 B)).setCell (p := ⟨bb, 0, none⟩) h2 _).setCell (p := ⟨rb, 1, none⟩) h1 _).setCell (p := ⟨bb, 0, none⟩) h2 _)).alloc (by simp; omega) _).drew
end Go.Proofs.YbulkdxyaFmt
