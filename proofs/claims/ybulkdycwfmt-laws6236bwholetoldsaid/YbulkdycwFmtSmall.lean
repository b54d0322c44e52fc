/- The small functions, by contract. -/
import Derived.Test.YbulkdycwFmtPlain
import Derived.WalkKit
import Derived.WalkSpells
import Derived.WalkLawsBesides
import Derived.OpenShut
import Derived.Deep.OwnRows
import Derived.Deep.DeepCutAuto
import Derived.Deep.CutBlock
import Derived.BigQuiet
import Derived.Deep.QuietTactic
import Derived.Deep.RegionWith
import Derived.Deep.RegionLawGrows
import Derived.StillTailTactics
import Derived.Laws.Rows
namespace Go.Proofs.YbulkdycwFmt
open Go.RowKit
set_option linter.unusedSimpArgs false
set_option linter.unusedVariables false

/-- n bytes at ad: those of dv from p on. -/
def BsAt (w : World) (ad : Addr) (n : Nat) (dv : Nat → Int) (p : Nat) : Prop := ∀ i, i < n → w.cell? (ad.add i) = some (.int .u8 (dv (p + i)))
theorem lt_of_cell {w : World} {a : Addr} {v : Value} (h : w.cell? a = some v) : a.block < w.heap.size := by
  rcases Nat.lt_or_ge a.block w.heap.size with h' | h'
  · exact h'
  · simp [World.cell?, Array.getElem?_eq_none h'] at h
theorem BsAt.keep {w w' : World} {ad : Addr} {n p B : Nat} {dv : Nat → Int} (h : BsAt w ad n dv p) (hb : Below B w w') (hB : w.heap.size ≤ B) : BsAt w' ad n dv p :=
  fun i hi => (hb.cell (Nat.lt_of_lt_of_le (lt_of_cell (h i hi)) hB)).trans (h i hi)
theorem add_add (a : Addr) (i j : Nat) : (a.add i).add j = a.add (i + j) := by
  unfold Addr.add
  by_cases hi : i = 0 <;> by_cases hj : j = 0 <;> simp [hi, hj, Nat.add_assoc]
/-- Where a cut from lo on lies. -/
def cutA (ad : Addr) (c lo : Nat) : Addr := if c = lo then ad else ad.add lo
theorem BsAt.cut {w : World} {ad : Addr} {n p : Nat} {dv : Nat → Int} (h : BsAt w ad n dv p) (c lo hi : Nat) (h1 : lo ≤ hi) (h2 : hi ≤ n) (h3 : n ≤ c) : BsAt w (cutA ad c lo) (hi - lo) dv (p + lo) := by
  intro i hi'
  have e : cutA ad c lo = ad.add lo := by unfold cutA; rw [if_neg (by omega)]
  rw [e, add_add, Nat.add_assoc]
  exact h (lo + i) (by omega)
theorem size5 (w : World) : (sizeOf 5).run Ybaf.prog w = .ok 1 w := by kernel_rfl
theorem elem24 : Ybaf.prog.elem 24 = 5 := by kernel_rfl
theorem cut_lh (ad : Addr) (n c lo hi : Nat) (h1 : lo ≤ hi) (h2 : hi ≤ c) (w : World) : (Instr.slice 24 (.slice (some ad) n c) (some (.int .i64 (lo : Int))) (some (.int .i64 (hi : Int))) none).run Ybaf.prog w = .ok (.slice (some (cutA ad c lo)) (hi - lo) (c - lo)) w := by
  have ht : Ybaf.prog.underlying 24 = some (.slice (Ybaf.prog.elem 24)) := by rw [elem24]; exact Ybaf.underlying24
  rw [run_slice_lh w 24 (some ad) n c ht .i64 .i64 _ _ (by omega) (by omega) (by omega), elem24, size5]
  simp only [Result.andThen_ok, sliced, cutA, Int.toNat_natCast, Nat.mul_one, Option.map_some]
  by_cases h : c = lo <;> simp [h]
theorem cut_l (ad : Addr) (n c lo : Nat) (h1 : lo ≤ n) (h2 : n ≤ c) (w : World) : (Instr.slice 24 (.slice (some ad) n c) (some (.int .i64 (lo : Int))) none none).run Ybaf.prog w = .ok (.slice (some (cutA ad c lo)) (n - lo) (c - lo)) w := by
  have ht : Ybaf.prog.underlying 24 = some (.slice (Ybaf.prog.elem 24)) := by rw [elem24]; exact Ybaf.underlying24
  rw [run_slice_l w 24 (some ad) n c ht .i64 _ (by omega) (by omega), elem24, size5]
  simp only [Result.andThen_ok, sliced, cutA, Int.toNat_natCast, Nat.mul_one, Option.map_some]
  by_cases h : c = lo <;> simp [h]
theorem cut_h (ad : Addr) (n c hi : Nat) (h2 : hi ≤ c) (w : World) : (Instr.slice 24 (.slice (some ad) n c) none (some (.int .i64 (hi : Int))) none).run Ybaf.prog w = .ok (.slice (some ad) hi c) w := by
  have ht : Ybaf.prog.underlying 24 = some (.slice (Ybaf.prog.elem 24)) := by rw [elem24]; exact Ybaf.underlying24
  rw [run_slice_h w 24 (some ad) n c ht .i64 _ (by omega) (by omega), elem24, size5]
  simp [Result.andThen_ok, sliced, Addr.add]

set_option maxRecDepth 100000 in
set_option maxHeartbeats 2000000 in
theorem be_calls (ad : Addr) (n c p : Nat) (dv : Nat → Int) (w : World) (hn : n ≤ 8) (hd : Bytes dv) (hb : BsAt w ad n dv p) :
    Calls Ybaf.prog 20 #[.slice (some ad) n c] w fun e w' => e = .returned (.int .u64 (be dv p n)) ∧ w = w' := by
  have HB : Hid (BsAt w ad n dv p) := hb
  clear hb
  go_enter Ybaf.func20, Ybaf.ntmps20
  go_wp2_with fail
  go_loop [3, 4] (fun v i => ∃ j : Nat, j ≤ n ∧ i = .int .i64 j ∧ v = .int .u64 (be dv p j)) (fun _ i => n - (intOf i).toNat)
  case atStart => exact ⟨0, by omega, rfl, rfl⟩
  case round =>
    obtain ⟨j, hj, rfl, rfl⟩ := hrel
    by_cases hlt : j < n
    · have hlt' : (j : Int) < (n : Int) := by omega
      have c0 := HB.out j hlt
      have hx := hd (p + j)
      have hv := be_bounds hd p j
      have hv1 := be_lt56 hd p (show j ≤ 7 by omega)
      go_wp2
      exact ⟨⟨j + 1, hlt, by go_num, by rw [or8_u64 _ _ hv.1 hv1 hx.1 (by omega)]; rfl⟩, by simp [intOf]; omega⟩
    · have hlt' : ¬ (j : Int) < (n : Int) := by omega
      obtain rfl : j = n := by omega
      go_wp2
      go_ret
      exact ⟨rfl, rfl⟩

set_option maxRecDepth 100000 in
set_option maxHeartbeats 2000000 in
theorem spec_calls (i : Nat) (w : World) (hi : i < 16) :
    Calls Ybaf.prog 19 #[.int .i64 i] w fun e w' => e = .returned (.tuple #[.int .i64 (fbit i), .int .i64 (fsz i)]) ∧ w = w' := by
  go_enter Ybaf.func19, Ybaf.ntmps19
  match i, hi with
  | 0, _ => go_wp2; go_ret2; exact ⟨rfl, rfl⟩
  | 1, _ => go_wp2; go_ret2; exact ⟨rfl, rfl⟩
  | 2, _ => go_wp2; go_ret2; exact ⟨rfl, rfl⟩
  | 3, _ => go_wp2; go_ret2; exact ⟨rfl, rfl⟩
  | 4, _ => go_wp2; go_ret2; exact ⟨rfl, rfl⟩
  | 5, _ => go_wp2; go_ret2; exact ⟨rfl, rfl⟩
  | 6, _ => go_wp2; go_ret2; exact ⟨rfl, rfl⟩
  | 7, _ => go_wp2; go_ret2; exact ⟨rfl, rfl⟩
  | 8, _ => go_wp2; go_ret2; exact ⟨rfl, rfl⟩
  | 9, _ => go_wp2; go_ret2; exact ⟨rfl, rfl⟩
  | 10, _ => go_wp2; go_ret2; exact ⟨rfl, rfl⟩
  | 11, _ => go_wp2; go_ret2; exact ⟨rfl, rfl⟩
  | 12, _ => go_wp2; go_ret2; exact ⟨rfl, rfl⟩
  | 13, _ => go_wp2; go_ret2; exact ⟨rfl, rfl⟩
  | 14, _ => go_wp2; go_ret2; exact ⟨rfl, rfl⟩
  | 15, _ => go_wp2; go_ret2; exact ⟨rfl, rfl⟩
  | n + 16, h => exact absurd h (by omega)

set_option maxRecDepth 100000 in
set_option maxHeartbeats 2000000 in
theorem units_calls (T : Nat) (w : World) (hT : T < 16777216) :
    Calls Ybaf.prog 4 #[.int .u32 T] w fun e w' => e = .returned (.int .i64 (units T 24)) ∧ w = w' := by
  go_enter Ybaf.func4, Ybaf.ntmps4
  go_wp2_with fail
  go_loop [3, 4] (fun v i => ∃ j : Nat, j ≤ 24 ∧ i = .int .i64 j ∧ v = .int .i64 (units T j)) (fun _ i => 24 - (intOf i).toNat)
  case atStart => exact ⟨0, by omega, rfl, rfl⟩
  case round =>
    obtain ⟨j, hj, rfl, rfl⟩ := hrel
    by_cases hlt : j < 24
    · have hlt' : (j : Int) < 24 := by omega
      have hu := units_le T j
      have hq := shr_and T j hT hlt
      by_cases hb : T / 2 ^ (23 - j) % 2 = 1
      · rw [hb] at hq
        have ht : tbit T j = true := by simp [tbit, hb]
        have e : ((units T (j + 1) : Nat) : Int) = (units T j : Int) + (uw j : Int) := by rw [units, ht]; simp
        by_cases h8 : j = 8 ∨ j = 9 ∨ j = 10
        · have hw2 : uw j = 2 := by unfold uw; rw [if_pos h8]
          rw [hw2] at e
          clear hw2 hb ht
          rcases h8 with rfl | rfl | rfl
          · have hq' : bits .and .u32 ((T : Int) / 32768) 1 = 1 := by simpa using hq
            go_wp2; exact ⟨⟨9, by omega, by rfl, by rw [e]; rfl⟩, by simp [intOf]⟩
          · have hq' : bits .and .u32 ((T : Int) / 16384) 1 = 1 := by simpa using hq
            go_wp2; exact ⟨⟨10, by omega, by rfl, by rw [e]; rfl⟩, by simp [intOf]⟩
          · have hq' : bits .and .u32 ((T : Int) / 8192) 1 = 1 := by simpa using hq
            go_wp2; exact ⟨⟨11, by omega, by rfl, by rw [e]; rfl⟩, by simp [intOf]⟩
        · have g8 : ((j : Int) == 8) = false := by simp; omega
          have g9 : ((j : Int) == 9) = false := by simp; omega
          have g10 : ((j : Int) == 10) = false := by simp; omega
          by_cases h21 : j ≤ 21
          · have h21' : (j : Int) ≤ 21 := by omega
            have hw1 : uw j = 1 := by unfold uw; rw [if_neg h8, if_pos h21]
            rw [hw1] at e
            go_wp2
            exact ⟨⟨j + 1, by omega, by go_num, by rw [e]; rfl⟩, by simp [intOf]; omega⟩
          · have h21' : ¬ (j : Int) ≤ 21 := by omega
            have hw1 : uw j = 0 := by unfold uw; rw [if_neg h8, if_neg h21]
            rw [hw1] at e
            go_wp2
            exact ⟨⟨j + 1, by omega, by go_num, by rw [e]; simp⟩, by simp [intOf]; omega⟩
      · have hb0 : T / 2 ^ (23 - j) % 2 = 0 := by omega
        rw [hb0] at hq
        have ht : tbit T j = false := by simp [tbit, hb0]
        have e : ((units T (j + 1) : Nat) : Int) = (units T j : Int) := by rw [units, ht]; simp
        go_wp2
        exact ⟨⟨j + 1, by omega, by go_num, by rw [e]⟩, by simp [intOf]; omega⟩
    · have hlt' : ¬ (j : Int) < 24 := by omega
      obtain rfl : j = 24 := by omega
      go_wp2
      go_ret
      exact ⟨rfl, rfl⟩
end Go.Proofs.YbulkdycwFmt
