/- undefinedSize, NodeLen: by contract. -/
import Derived.Test.YbulkdycwFmtIter
namespace Go.Proofs.YbulkdycwFmt
open Go.RowKit
set_option linter.unusedSimpArgs false
set_option linter.unusedVariables false

theorem land4092 (T : Nat) : T &&& 4092 = 4 * (T / 4 % 1024) := by
  apply Nat.eq_of_testBit_eq
  intro i
  have h1 : 4 * (T / 4 % 1024) = (T / 2 ^ 2 % 2 ^ 10) * 2 ^ 2 := by omega
  have h2 : (4092 : Nat) = (2 ^ 10 - 1) * 2 ^ 2 := rfl
  rw [h1, Nat.testBit_and, h2, Nat.testBit_mul_two_pow, Nat.testBit_mul_two_pow, Nat.testBit_mod_two_pow, Nat.testBit_two_pow_sub_one, Nat.testBit_div_two_pow]
  by_cases h : 2 ≤ i
  · have : i - 2 + 2 = i := by omega
    simp [h, this, Bool.and_comm]
  · simp [h]

theorem bit_if (T k c : Nat) : (if tbit T k = true then c else 0) = c * (T / 2 ^ (23 - k) % 2) := by
  have h : T / 2 ^ (23 - k) % 2 < 2 := Nat.mod_lt _ (by omega)
  unfold tbit
  by_cases h1 : T / 2 ^ (23 - k) % 2 = 1
  · simp [h1]
  · have h0 : T / 2 ^ (23 - k) % 2 = 0 := by omega
    simp [h0]

theorem cnt10_eq (T : Nat) : cnt10 (4 * (T / 4 % 1024)) = T / 4 % 2 + T / 8 % 2 + T / 16 % 2 + T / 32 % 2 + T / 64 % 2 + T / 128 % 2 + T / 256 % 2 + T / 512 % 2 + T / 1024 % 2 + T / 2048 % 2 := by
  have h2 : 4 * (T / 4 % 1024) / 4 % 2 = T / 4 % 2 := by omega
  have h3 : 4 * (T / 4 % 1024) / 8 % 2 = T / 8 % 2 := by omega
  have h4 : 4 * (T / 4 % 1024) / 16 % 2 = T / 16 % 2 := by omega
  have h5 : 4 * (T / 4 % 1024) / 32 % 2 = T / 32 % 2 := by omega
  have h6 : 4 * (T / 4 % 1024) / 64 % 2 = T / 64 % 2 := by omega
  have h7 : 4 * (T / 4 % 1024) / 128 % 2 = T / 128 % 2 := by omega
  have h8 : 4 * (T / 4 % 1024) / 256 % 2 = T / 256 % 2 := by omega
  have h9 : 4 * (T / 4 % 1024) / 512 % 2 = T / 512 % 2 := by omega
  have h10 : 4 * (T / 4 % 1024) / 1024 % 2 = T / 1024 % 2 := by omega
  have h11 : 4 * (T / 4 % 1024) / 2048 % 2 = T / 2048 % 2 := by omega
  unfold cnt10
  rw [h2, h3, h4, h5, h6, h7, h8, h9, h10, h11]

theorem ssum16 (T : Nat) : ssum T 16 = 4 * (T / 8388608 % 2) + 4 * (T / 4194304 % 2) + 4 * (T / 2097152 % 2) + 4 * (T / 1048576 % 2) + 4 * (T / 524288 % 2) + 4 * (T / 262144 % 2) + 4 * (T / 131072 % 2) + 4 * (T / 65536 % 2) + 8 * (T / 32768 % 2) + 8 * (T / 16384 % 2) + 8 * (T / 8192 % 2) + 4 * (T / 4096 % 2) := by
  have f : ∀ k, ssum T (k + 1) = ssum T k + fsz k * (T / 2 ^ (23 - fbit k) % 2) := fun k => by rw [ssum, bit_if]
  rw [f 15, f 14, f 13, f 12, f 11, f 10, f 9, f 8, f 7, f 6, f 5, f 4, f 3, f 2, f 1, f 0]
  show 0 + 1 * (T / 8388608 % 2) + 3 * (T / 8388608 % 2) + 2 * (T / 4194304 % 2) + 2 * (T / 4194304 % 2) + 4 * (T / 2097152 % 2) + 4 * (T / 1048576 % 2) + 4 * (T / 524288 % 2) + 4 * (T / 262144 % 2) + 4 * (T / 131072 % 2) + 4 * (T / 65536 % 2)
    + 1 * (T / 32768 % 2) + 7 * (T / 32768 % 2) + 4 * (T / 16384 % 2) + 4 * (T / 16384 % 2) + 8 * (T / 8192 % 2) + 4 * (T / 4096 % 2) = _
  generalize T / 8388608 % 2 = d0
  generalize T / 4194304 % 2 = d1
  generalize T / 2097152 % 2 = d2
  generalize T / 1048576 % 2 = d3
  generalize T / 524288 % 2 = d4
  generalize T / 262144 % 2 = d5
  generalize T / 131072 % 2 = d6
  generalize T / 65536 % 2 = d7
  generalize T / 32768 % 2 = d8
  generalize T / 16384 % 2 = d9
  generalize T / 8192 % 2 = d10
  generalize T / 4096 % 2 = d11
  omega
theorem units24 (T : Nat) : units T 24 = (T / 8388608 % 2) + (T / 4194304 % 2) + (T / 2097152 % 2) + (T / 1048576 % 2) + (T / 524288 % 2) + (T / 262144 % 2) + (T / 131072 % 2) + (T / 65536 % 2) + 2 * (T / 32768 % 2) + 2 * (T / 16384 % 2) + 2 * (T / 8192 % 2) + (T / 4096 % 2)
    + (T / 4 % 2 + T / 8 % 2 + T / 16 % 2 + T / 32 % 2 + T / 64 % 2 + T / 128 % 2 + T / 256 % 2 + T / 512 % 2 + T / 1024 % 2 + T / 2048 % 2) := by
  have e : ∀ k, units T (k + 1) = units T k + uw k * (T / 2 ^ (23 - k) % 2) := fun k => by rw [units, bit_if]
  rw [e 23, e 22, e 21, e 20, e 19, e 18, e 17, e 16, e 15, e 14, e 13, e 12, e 11, e 10, e 9, e 8, e 7, e 6, e 5, e 4, e 3, e 2, e 1, e 0]
  show 0 + 1 * (T / 8388608 % 2) + 1 * (T / 4194304 % 2) + 1 * (T / 2097152 % 2) + 1 * (T / 1048576 % 2) + 1 * (T / 524288 % 2) + 1 * (T / 262144 % 2) + 1 * (T / 131072 % 2) + 1 * (T / 65536 % 2) + 2 * (T / 32768 % 2) + 2 * (T / 16384 % 2) + 2 * (T / 8192 % 2) + 1 * (T / 4096 % 2)
    + 1 * (T / 2048 % 2) + 1 * (T / 1024 % 2) + 1 * (T / 512 % 2) + 1 * (T / 256 % 2) + 1 * (T / 128 % 2) + 1 * (T / 64 % 2) + 1 * (T / 32 % 2) + 1 * (T / 16 % 2) + 1 * (T / 8 % 2) + 1 * (T / 4 % 2) + 0 * (T / 2 % 2) + 0 * (T / 1 % 2) = _
  generalize T / 8388608 % 2 = d0
  generalize T / 4194304 % 2 = d1
  generalize T / 2097152 % 2 = d2
  generalize T / 1048576 % 2 = d3
  generalize T / 524288 % 2 = d4
  generalize T / 262144 % 2 = d5
  generalize T / 131072 % 2 = d6
  generalize T / 65536 % 2 = d7
  generalize T / 32768 % 2 = d8
  generalize T / 16384 % 2 = d9
  generalize T / 8192 % 2 = d10
  generalize T / 4096 % 2 = d11
  generalize T / 2048 % 2 = d12
  generalize T / 1024 % 2 = d13
  generalize T / 512 % 2 = d14
  generalize T / 256 % 2 = d15
  generalize T / 128 % 2 = d16
  generalize T / 64 % 2 = d17
  generalize T / 32 % 2 = d18
  generalize T / 16 % 2 = d19
  generalize T / 8 % 2 = d20
  generalize T / 4 % 2 = d21
  omega
theorem nodeLen_eq (T : Nat) : (ssum T 16 + 4 * cnt10 (4 * (T / 4 % 1024))) / 4 = units T 24 := by
  rw [cnt10_eq, ssum16, units24]
  generalize T / 8388608 % 2 = d0
  generalize T / 4194304 % 2 = d1
  generalize T / 2097152 % 2 = d2
  generalize T / 1048576 % 2 = d3
  generalize T / 524288 % 2 = d4
  generalize T / 262144 % 2 = d5
  generalize T / 131072 % 2 = d6
  generalize T / 65536 % 2 = d7
  generalize T / 32768 % 2 = d8
  generalize T / 16384 % 2 = d9
  generalize T / 8192 % 2 = d10
  generalize T / 4096 % 2 = d11
  generalize (T / 4 % 2 + T / 8 % 2 + T / 16 % 2 + T / 32 % 2 + T / 64 % 2 + T / 128 % 2 + T / 256 % 2 + T / 512 % 2 + T / 1024 % 2 + T / 2048 % 2) = d12
  omega

set_option maxRecDepth 100000 in
set_option maxHeartbeats 2000000 in
theorem undef_calls (T : Nat) (hT : T < 16777216) (w : World) : Calls Ybaf.prog 27 #[.int .u32 (T : Int), .int .u32 4092] w fun e w' => e = .returned (.int .i64 ((4 * cnt10 (4 * (T / 4 % 1024)) : Nat) : Int)) ∧ w = w' := by
  have ha : bits .and .u32 (T : Int) 4092 = ((4 * (T / 4 % 1024) : Nat) : Int) := by
    have := (bits_nat .u32 32 (by decide) wraps_u32 T 4092 (by omega) (by decide)).1
    rw [land4092] at this
    exact this
  have hc : cnt10 (4 * (T / 4 % 1024)) ≤ 10 := by
    rw [cnt10_eq]
    have h := fun j => Nat.mod_lt (T / j) (show 2 > 0 by omega)
    have := h 4; have := h 8; have := h 16; have := h 32; have := h 64; have := h 128; have := h 256; have := h 512; have := h 1024; have := h 2048
    generalize T / 4 % 2 = d0 at *
    generalize T / 8 % 2 = d1 at *
    generalize T / 16 % 2 = d2 at *
    generalize T / 32 % 2 = d3 at *
    generalize T / 64 % 2 = d4 at *
    generalize T / 128 % 2 = d5 at *
    generalize T / 256 % 2 = d6 at *
    generalize T / 512 % 2 = d7 at *
    generalize T / 1024 % 2 = d8 at *
    generalize T / 2048 % 2 = d9 at *
    clear h
    omega
  obtain ⟨C, hC⟩ : ∃ C, cnt10 (4 * (T / 4 % 1024)) = C := ⟨_, rfl⟩
  have hm := (ones_calls (T / 4 % 1024) (Nat.mod_lt _ (by omega)) w)
  rw [hC] at hm hc ⊢
  obtain ⟨M, hM⟩ : ∃ M : Nat, 4 * (T / 4 % 1024) = M := ⟨_, rfl⟩
  have hM1 : M < 4096 := by omega
  rw [hM] at hm ha
  have HM : Hid (Calls Ybaf.prog 31 #[.int .u64 (M : Int)] w fun e w' => e = .returned (.int .i64 (C : Int)) ∧ w = w') := hm
  clear hm hM hC
  go_enter Ybaf.func27, Ybaf.ntmps27
  go_wp2_with (go_at_call 31; refine HM.out.mono ?_; rintro e' w' ⟨rfl, rfl⟩)
  go_ret
  exact ⟨by simp, rfl⟩

set_option maxRecDepth 100000 in
set_option maxHeartbeats 2000000 in
theorem nodeLen_calls (T : Nat) (hT : T < 16777216) (nv : Nat → ByteArray) (w : World) (ht : Table w nv) (hw : 1 < w.heap.size) : Calls Ybaf.prog 21 #[.int .u32 (T : Int)] w fun e w' => e = .returned (.int .i64 (units T 24)) ∧ Below w.heap.size w w' := by
  have HT : Hid (Table w nv) := ht
  rw [← nodeLen_eq T]
  have hs := ssum_le T 16
  have hc : cnt10 (4 * (T / 4 % 1024)) ≤ 100 := by
    unfold cnt10
    generalize 4 * (T / 4 % 1024) = x
    have h := fun j => Nat.mod_lt (x / j) (show 2 > 0 by omega)
    have := h 4; have := h 8; have := h 16; have := h 32; have := h 64; have := h 128; have := h 256; have := h 512; have := h 1024; have := h 2048
    clear h
    generalize x / 4 % 2 = d0 at *
    generalize x / 8 % 2 = d1 at *
    generalize x / 16 % 2 = d2 at *
    generalize x / 32 % 2 = d3 at *
    generalize x / 64 % 2 = d4 at *
    generalize x / 128 % 2 = d5 at *
    generalize x / 256 % 2 = d6 at *
    generalize x / 512 % 2 = d7 at *
    generalize x / 1024 % 2 = d8 at *
    generalize x / 2048 % 2 = d9 at *
    omega
  have H1 : Hid (Calls Ybaf.prog 26 #[.slice (some ⟨1, 0, none⟩) 16 16, .int .u32 (T : Int)] w fun e w' => e = .returned (.int .i64 (ssum T 16)) ∧ Below w.heap.size w w') := callsIn_wide.1 (annSize_in 3 (by omega) T hT nv w ht hw)
  have H2 : Hid (∀ w' : World, Calls Ybaf.prog 27 #[.int .u32 (T : Int), .int .u32 4092] w' fun e w'' => e = .returned (.int .i64 ((4 * cnt10 (4 * (T / 4 % 1024)) : Nat) : Int)) ∧ w' = w'') := fun w' => undef_calls T hT w'
  generalize cnt10 (4 * (T / 4 % 1024)) = C at *
  generalize ssum T 16 = S at *
  clear ht
  go_enter Ybaf.func21, Ybaf.ntmps21
  go_wp2_with (first | (go_at_call 26; refine H1.out.mono ?_; rintro e' w' ⟨rfl, hb⟩; have HB : Hid (Below w.heap.size w w') := hb; clear hb) | (go_at_call 27; refine (H2.out _).mono ?_; rintro e' w'' ⟨rfl, rfl⟩))
  go_ret
  exact ⟨by simp, HB.out⟩
end Go.Proofs.YbulkdycwFmt
