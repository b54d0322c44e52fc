/- A row of uint64 that a sort turns: whatever it holds. -/
import Derived.Test.YbulkdxyaFmtKit
import Derived.BigCall
import Derived.BigGuard
import Derived.CellFam
import Derived.HandedShaped
import Derived.Deep.Slices
namespace Go.Proofs.YbulkdxyaFmt
open Go.RowKit
set_option linter.unusedSimpArgs false
set_option linter.unusedVariables false

/-- The row at blk, off still holds n integers; of the rest nothing has turned. -/
structure RK (w0 w : World) (blk off n : Nat) : Prop where
  cel : ∀ t, t < n → ∃ m, w.cell? ⟨blk, off + t, none⟩ = some (.int .u64 m)
  frz : ∀ t, t < n → w.frozen? ⟨blk, off + t, none⟩ = false
  other : ∀ j, j < w0.heap.size → j ≠ blk → w.heap[j]? = w0.heap[j]?
  size : w0.heap.size ≤ w.heap.size
  os : w.os = w0.os
  tape : w.tape = w0.tape
  out : w.output = w0.output
theorem RK.fam {w0 w : World} {blk off n : Nat} (h : RK w0 w blk off n) : ∃ f : Nat → Int, (∀ t, t < n → w.cell? ⟨blk, off + t, none⟩ = some (.int .u64 (f t))) ∧ ∀ t, t < n → w.frozen? ⟨blk, off + t, none⟩ = false := by
  obtain ⟨f, hf⟩ := Go.Deep.choose_lt h.cel
  exact ⟨f, hf, h.frz⟩
theorem RK.refl {w0 w : World} {blk off n : Nat} (h : RK w0 w blk off n) : RK w w blk off n := ⟨h.cel, h.frz, fun _ _ _ => rfl, Nat.le_refl _, rfl, rfl, rfl⟩
theorem RK.trans {a b c : World} {blk off n : Nat} (h : RK a b blk off n) (h' : RK b c blk off n) : RK a c blk off n :=
  ⟨h'.cel, h'.frz, fun j hj hne => (h'.other j (Nat.lt_of_lt_of_le hj h.size) hne).trans (h.other j hj hne), Nat.le_trans h.size h'.size, h'.os.trans h.os, h'.tape.trans h.tape, h'.out.trans h.out⟩
theorem RK.set {w0 w : World} {blk off n : Nat} (h : RK w0 w blk off n) (i : Nat) (x : Int) : RK w0 (w.setCell ⟨blk, i, none⟩ (.int .u64 x)) blk off n := by
  have hb := (Below.refl 0 w).setCell (p := ⟨blk, i, none⟩) (Nat.zero_le _) (.int .u64 x)
  exact ⟨fun t ht => someInt_setCell (h.cel t ht) _ _, fun t ht => by rw [World.frozen?_setCell]; exact h.frz t ht, fun j hj hne => (Below.heap_setCell _ _ _ _ hne).trans (h.other j hj hne), by rw [World.size_setCell]; exact h.size, hb.os.trans h.os, hb.tape.trans h.tape, hb.output.trans h.out⟩
theorem RK.lt {w0 w : World} {blk off n : Nat} (h : RK w0 w blk off n) (hn : 0 < n) : blk < w.heap.size := by
  obtain ⟨m, hm⟩ := h.cel 0 hn
  exact lt_of_cell hm
theorem RK.keep {w0 w w' : World} {blk off n : Nat} (h : RK w0 w blk off n) (hb : Below w.heap.size w w') : RK w0 w' blk off n := by
  refine ⟨fun t ht => ?_, fun t ht => ?_, fun j hj hne => (hb.block j (Nat.lt_of_lt_of_le hj h.size)).trans (h.other j hj hne), Nat.le_trans h.size hb.size, hb.os.trans h.os, hb.tape.trans h.tape, hb.output.trans h.out⟩
  · obtain ⟨m, hm⟩ := h.cel t ht
    exact ⟨m, (hb.cell (lt_of_cell hm)).trans hm⟩
  · obtain ⟨m, hm⟩ := h.cel t ht
    rw [hb.frozen (lt_of_cell hm)]
    exact h.frz t ht
theorem RK.drewN {w0 w : World} {blk off n : Nat} (h : RK w0 w blk off n) (q : Nat) : RK w0 (w.drewN q) blk off n := h.keep (below_drewN (Below.refl _ _) _)
theorem RK.drew {w0 w : World} {blk off n : Nat} (h : RK w0 w blk off n) : RK w0 w.drew blk off n := h.keep (Below.refl _ _).drew

set_option maxRecDepth 100000 in
set_option maxHeartbeats 2000000 in
theorem less_calls (x y : Int) (w : World) : Calls Ybaf.prog 31 #[.int .u64 x, .int .u64 y] w fun e w' => e = .returned (.bool (decide (x < y))) ∧ w' = w := by
  have hN : ∀ z w, Calls Ybaf.prog 56 #[.int .u64 z] w fun e w' => e = .returned (.bool false) ∧ w = w' := fun z w => by
    have hq : (z != z) = false := by simp
    go_enter Ybaf.func56, Ybaf.ntmps56
    go_wp2_with fail
    go_ret
    exact ⟨rfl, rfl⟩
  have HN : Hid (∀ z w, Calls Ybaf.prog 56 #[.int .u64 z] w fun e w' => e = .returned (.bool false) ∧ w = w') := hN
  clear hN
  go_enter Ybaf.func31, Ybaf.ntmps31
  go_wp2_with (go_at_call 56; refine (HN.out _ _).mono ?_; rintro e' w' ⟨rfl, rfl⟩)
  go_ret
  exact ⟨rfl, rfl⟩

set_option maxRecDepth 1000000 in
set_option maxHeartbeats 4000000 in
theorem reverse_calls (blk off n cap a b : Nat) (w0 w : World) (h : RK w0 w blk off n) (hab : a ≤ b) (hb : b ≤ n) (hn : n ≤ 1000000) :
    Calls Ybaf.prog 29 #[.slice (some ⟨blk, off, none⟩) n cap, .int .i64 a, .int .i64 b] w fun e w' => e = .returned (.tuple #[]) ∧ RK w0 w' blk off n := by
  have H0 : Hid (RK w0 w blk off n) := h
  clear h
  go_enter Ybaf.func29, Ybaf.ntmps29
  go_wp2_with fail
  go_loopg [6, 7] (b - a) (fun g x y wr => ∃ i j : Nat, g = j - i ∧ a ≤ i ∧ j ≤ b ∧ x = .int .i64 i ∧ y = .int .i64 ((j : Int) - 1) ∧ Hid (RK w0 wr blk off n))
  case atStart => exact ⟨a, b, rfl, by omega, by omega, rfl, rfl, H0⟩
  case round =>
    clear H0
    obtain ⟨i, j, rfl, hi, hj, rfl, rfl, HK⟩ := hrel
    by_cases hlt : i + 1 < j
    · obtain ⟨k, rfl⟩ : ∃ k, j = k + 1 := ⟨j - 1, by omega⟩
      obtain ⟨f, hcw, hfw⟩ := HK.out.fam
      have hik : (i : Int) < (k : Int) := by omega
      go_upto_region 3 with fail
      go_region
      go_wp2_with fail
      go_roundg (k - (i + 1))
      case measure => omega
      case rel => exact ⟨i + 1, k, rfl, by omega, by omega, by go_num, by go_num, ((HK.out.set _ _).set _ _).drew⟩
    · have hik : ¬ (i : Int) < (j : Int) - 1 := by omega
      go_wp2_with fail
      go_end0
      exact ⟨rfl, HK.out⟩

set_option maxRecDepth 1000000 in
set_option maxHeartbeats 4000000 in
theorem insertion_calls (blk off n cap a b : Nat) (w0 w : World) (h : RK w0 w blk off n) (hab : a ≤ b) (hb : b ≤ n) (hn : n ≤ 1000000) :
    Calls Ybaf.prog 25 #[.slice (some ⟨blk, off, none⟩) n cap, .int .i64 a, .int .i64 b] w fun e w' => e = .returned (.tuple #[]) ∧ RK w0 w' blk off n := by
  have H0 : Hid (RK w0 w blk off n) := h
  clear h
  go_enter Ybaf.func25, Ybaf.ntmps25
  go_wp2_with fail
  go_loopg [6, 7] (b - (a + 1)) (fun g x y wr => ∃ i : Nat, g = b - i ∧ a < i ∧ x = .int .i64 i ∧ Hid (RK w0 wr blk off n))
  case atStart => exact ⟨a + 1, by omega, by omega, by go_num, H0⟩
  case round =>
    clear H0
    obtain ⟨i, rfl, hi, rfl, HK⟩ := hrel
    by_cases hlt : i < b
    · have hlt' : (i : Int) < (b : Int) := by omega
      go_wp2_with fail
      go_loopg [7] (i - a) (fun g y wr => ∃ j : Nat, g = j - a ∧ a ≤ j ∧ j ≤ i ∧ y = .int .i64 j ∧ Hid (RK w0 wr blk off n))
      case atStart => exact ⟨i, rfl, by omega, by omega, rfl, HK⟩
      case round =>
        clear HK
        obtain ⟨j, rfl, hj, hji, rfl, HK⟩ := hrel
        by_cases haj : a < j
        · obtain ⟨k, rfl⟩ : ∃ k, j = k + 1 := ⟨j - 1, by omega⟩
          have haj' : (a : Int) < (k : Int) + 1 := by omega
          obtain ⟨f, hcw, hfw⟩ := HK.out.fam
          by_cases hl : f (k + 1) < f k
          · go_upto_region 4 with fail
            go_quiet ((go_at_call 31; exact Calls.quiet_of_same (less_calls _ _ _)))
            have HK2 : Hid (RK w0 (World.drewN _ nq) blk off n) := HK.out.drewN nq
            generalize World.drewN _ nq = wr2 at HK2 ⊢
            clear hcw hfw HK
            obtain ⟨f2, hcw, hfw⟩ := HK2.out.fam
            go_upto_region 6 with fail
            go_region
            go_wp2_with fail
            go_roundg (k - a)
            case measure => omega
            case rel => exact ⟨k, rfl, by omega, by omega, by go_num, ((HK2.out.set _ _).set _ _).drew⟩
          · go_upto_region 4 with fail
            go_quiet ((go_at_call 31; exact Calls.quiet_of_same (less_calls _ _ _)))
            go_wp2_with fail
            go_roundg (b - (i + 1))
            case measure => omega
            case rel => exact ⟨i + 1, rfl, by omega, by go_num, HK.out.drewN _⟩
        · have haj' : ¬ (a : Int) < (j : Int) := by omega
          go_upto_region 4 with fail
          go_quiet ((go_at_call 31; exact Calls.quiet_of_same (less_calls _ _ _)))
          go_wp2_with fail
          go_roundg (b - (i + 1))
          case measure => omega
          case rel => exact ⟨i + 1, rfl, by omega, by go_num, HK.out.drewN _⟩
    · have hlt' : ¬ (i : Int) < (b : Int) := by omega
      go_wp2_with fail
      go_end0
      exact ⟨rfl, HK.out⟩
end Go.Proofs.YbulkdxyaFmt
