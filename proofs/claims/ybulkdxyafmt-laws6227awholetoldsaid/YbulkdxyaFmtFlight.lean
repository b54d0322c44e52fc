/- inFlight with no probe; ContainsFunc over unset fingers: by contract. -/
import Derived.Test.YbulkdxyaFmtClosest
import Derived.Maps.RangeRun
import Derived.Maps.Range
namespace Go.Proofs.YbulkdxyaFmt
open Go.RowKit Go.Maps
set_option linter.unusedSimpArgs false
set_option linter.unusedVariables false

set_option maxRecDepth 100000 in
set_option maxHeartbeats 2000000 in
theorem inFlight_calls (N m1 : Nat) (f : Value) (w : World) (c30 : w.cell? ⟨N, 30, none⟩ = some (.map (some m1))) (hm : w.heap[m1]? = some (.map #[] 0)) :
    Calls Ybaf.prog 74 #[.pointer (some ⟨N, 0, none⟩), f] w fun e w' => e = .returned (.tuple #[]) ∧ Below w.heap.size w w' := by
  have hrg := run_range_map (P := Ybaf.prog) w 79 50 219 m1 #[] 0 Ybaf.underlying79 hm
  obtain ⟨W, HW⟩ : ∃ W : World, Hid (W = w.alloc (.mapIter (some m1) 0 #[] 0)) := ⟨_, rfl⟩
  rw [← HW.out] at hrg
  have hlt : m1 < w.heap.size := (Array.getElem?_eq_some_iff.1 hm).1
  have hnx : ∀ ty, (Instr.next (.pointer (some ⟨w.heap.size, 0, none⟩)) false ty).run Ybaf.prog W = .ok (.tuple #[.bool false]) W := fun ty => by
    rcases run_next_at (P := Ybaf.prog) W ty w.heap.size m1 0 0 #[] #[] 0 (by rw [HW.out]; exact heap_alloc_new _ _) (by rw [HW.out, Below.heap_alloc _ _ _ hlt]; exact hm) (by simp) (Nat.le_refl _) with ⟨_, h⟩ | ⟨e, he, _⟩
    · exact h
    · simp [leftOf] at he
  have HB : Hid (Below w.heap.size w W) := by rw [HW.out]; exact (Below.refl _ _).alloc (Nat.le_refl _) _
  clear hm HW
  go_enter Ybaf.func74, Ybaf.ntmps74
  go_wp2_with fail
  go_loopg [4, 5] 0 (fun k x y wr => k = 0 ∧ wr = W)
  case atStart => exact ⟨rfl, rfl⟩
  case round =>
    obtain ⟨rfl, rfl⟩ := hrel
    go_wp2_with fail
    go_end0
    exact ⟨rfl, HB.out⟩

set_option maxRecDepth 100000 in
set_option maxHeartbeats 2000000 in
theorem unset_calls (b : Nat) (x : Int) (s : Bool) (w : World) :
    Calls Ybaf.prog 81 #[.agg #[.int .u64 x, .bool false, .bool s], .pointer (some ⟨b, 0, none⟩)] w fun e w' => e = .returned (.bool false) ∧ Below w.heap.size w w' := by
  go_enter Ybaf.func81, Ybaf.ntmps81
  go_wp2_with fail
  go_ret
  exact ⟨rfl, (Below.refl _ _).alloc (Nat.le_refl _) _⟩

set_option maxRecDepth 100000 in
set_option maxHeartbeats 2000000 in
theorem fingers_calls (N b : Nat) (R : Array Value) (id : Int) (ht : TypeId) (hv : Value) (m1 m3 : Nat) (w : World) (hN : NX w N R id ht hv m1 m3) :
    Calls Ybaf.prog 80 #[.slice (some ⟨N, 59, none⟩) 64 64, .func (.func 81) #[] #[.pointer (some ⟨b, 0, none⟩)]] w fun e w' => e = .returned (.bool false) ∧ Below w.heap.size w w' := by
  have H : Hid (Calls Ybaf.prog 90 #[.slice (some ⟨N, 59, none⟩) 64 64, .func (.func 81) #[] #[.pointer (some ⟨b, 0, none⟩)]] w fun e w' => e = .returned (.int .i64 (-1)) ∧ Below w.heap.size w w') := by
    show Calls _ _ _ _ _
    have HX : Hid (NX w N R id ht hv m1 m3) := hN
    clear hN
    go_enter Ybaf.func90, Ybaf.ntmps90
    go_wp2_with fail
    go_loopg [5, 8] 64 (fun k x i wr => ∃ t : Nat, k = 64 - t ∧ t ≤ 64 ∧ i = .int .i64 t ∧ Hid (Below w.heap.size w wr))
    case atStart => exact ⟨0, rfl, by omega, rfl, Below.refl _ _⟩
    case round =>
      obtain ⟨t, rfl, ht64, rfl, HB⟩ := hrel
      by_cases htl : t < 64
      · have htl' : (t : Int) < 64 := by omega
        obtain ⟨f0, f1, f2⟩ := HX.out.nf.fingers t htl
        have hX := HX.out.keep HB.out
        have d0 := hX.cell f0
        have d1 := hX.cell f1
        have d2 := hX.cell f2
        have HB2 : Hid (Below w.heap.size w wr) := HB
        clear f0 f1 f2 hX
        go_wp2_with (go_at_call 81; refine (unset_calls b 0 false _).mono ?_; rintro e' w2 ⟨rfl, hb2⟩; have HB3 : Hid (Below w.heap.size w w2) := HB2.out.trans (hb2.mono HB2.out.size); clear hb2)
        go_roundg (64 - (t + 1))
        case measure => omega
        case rel => exact ⟨t + 1, rfl, by omega, by go_num, HB3⟩
      · obtain rfl : t = 64 := by omega
        go_wp2_with fail
        go_ret
        exact ⟨rfl, HB.out⟩
  go_enter Ybaf.func80, Ybaf.ntmps80
  go_wp2_with (go_at_call 90; refine H.out.mono ?_; rintro e' w2 ⟨rfl, hb2⟩; have HB3 : Hid (Below w.heap.size w w2) := hb2; clear hb2)
  go_ret
  exact ⟨rfl, HB3.out⟩
end Go.Proofs.YbulkdxyaFmt
