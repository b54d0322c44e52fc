/- The plain side: bytes, bits, fields. -/
import Derived.Test.YbulkdycwFmtRows
import Derived.Laws.BitsLemmas
namespace Go.Proofs.YbulkdycwFmt
set_option linter.unusedSimpArgs false
set_option linter.unusedVariables false

/-- n bytes from p on, big-endian. -/
def be (dv : Nat → Int) (p : Nat) : Nat → Int
  | 0 => 0
  | n + 1 => be dv p n * 256 + dv (p + n)
def Bytes (dv : Nat → Int) : Prop := ∀ i, 0 ≤ dv i ∧ dv i ≤ 255
theorem be_bounds {dv : Nat → Int} (h : Bytes dv) (p n : Nat) : 0 ≤ be dv p n ∧ be dv p n < 256 ^ n := by
  induction n with
  | zero => simp [be]
  | succ n ih =>
    have := h (p + n)
    rw [be, Int.pow_succ]
    omega
theorem be_lt56 {dv : Nat → Int} (h : Bytes dv) (p : Nat) {n : Nat} (hn : n ≤ 7) : be dv p n < 72057594037927936 := by
  have h1 := (be_bounds h p n).2
  have h2 : (256 : Nat) ^ n ≤ 256 ^ 7 := Nat.pow_le_pow_right (by decide) hn
  have h3 : ((256 ^ n : Nat) : Int) ≤ ((256 ^ 7 : Nat) : Int) := Int.ofNat_le.2 h2
  have h4 : ((256 ^ 7 : Nat) : Int) = 72057594037927936 := rfl
  have h5 : ((256 ^ n : Nat) : Int) = (256 : Int) ^ n := by simp
  rw [← h5] at h1
  omega
/-- Trace-Type bit k, in the standards' numbering. -/
def tbit (T k : Nat) : Bool := T / 2 ^ (23 - k) % 2 == 1

theorem wraps_u16 (n : Int) (h₀ : 0 ≤ n) (h₁ : n < 2 ^ 16) : IntKind.u16.wrap n = n := by simp [IntKind.wrap, IntKind.bits, IntKind.signed]; omega
theorem wraps_u32 (n : Int) (h₀ : 0 ≤ n) (h₁ : n < 2 ^ 32) : IntKind.u32.wrap n = n := by rw [IntKind.wrap_u32]; omega
theorem wraps_u64 (n : Int) (h₀ : 0 ≤ n) (h₁ : n < 2 ^ 64) : IntKind.u64.wrap n = n := by simp [IntKind.wrap, IntKind.bits, IntKind.signed]; omega

/-- v<<8 | x. -/
theorem or8_u64 (v x : Int) (hv : 0 ≤ v) (hv1 : v < 2 ^ 56) (hx : 0 ≤ x) (hx1 : x < 256) : bits .or .u64 (v * 256) x = v * 256 + x :=
  bits_join .u64 64 (by decide) wraps_u64 8 _ x (by omega) (by omega) (by omega) hx hx1 (by omega)

theorem land_pow (T j : Nat) : T &&& 2 ^ j = if T / 2 ^ j % 2 = 1 then 2 ^ j else 0 := by
  apply Nat.eq_of_testBit_eq
  intro i
  have ht : T.testBit j = decide (T / 2 ^ j % 2 = 1) := by rw [Nat.testBit_eq_decide_div_mod_eq]
  by_cases hij : j = i
  · subst hij
    by_cases h : T / 2 ^ j % 2 = 1
    · simp [Nat.testBit_and, Nat.testBit_two_pow, ht, h]
    · simp [Nat.testBit_and, Nat.testBit_two_pow, ht, h]
  · by_cases h : T / 2 ^ j % 2 = 1
    · simp [Nat.testBit_and, Nat.testBit_two_pow, hij, h]
    · simp [Nat.testBit_and, Nat.testBit_two_pow, hij, h]
theorem and_pow (T j : Nat) (hT : T < 2 ^ 24) (hj : j < 24) : bits .and .u32 (T : Int) ((2 ^ j : Nat) : Int) = if T / 2 ^ j % 2 = 1 then ((2 ^ j : Nat) : Int) else 0 := by
  have hp : 2 ^ j < 2 ^ 32 := Nat.pow_lt_pow_right (by decide) (by omega)
  rw [(bits_nat .u32 32 (by decide) wraps_u32 T (2 ^ j) (by omega) hp).1, land_pow]
  by_cases h : T / 2 ^ j % 2 = 1
  · rw [if_pos h, if_pos h]
  · rw [if_neg h, if_neg h]; rfl
theorem and_one (n : Nat) (h : n < 2 ^ 32) : bits .and .u32 (n : Int) 1 = ((n % 2 : Nat) : Int) := by
  have := (bits_nat .u32 32 (by decide) wraps_u32 n 1 h (by decide)).1
  rw [Nat.and_one_is_mod] at this
  exact this

theorem shr_and (T j : Nat) (hT : T < 16777216) (hj : j < 24) : bits .and .u32 ((T : Int) / 2 ^ (23 - j)) 1 = ((T / 2 ^ (23 - j) % 2 : Nat) : Int) := by
  have e : (T : Int) / 2 ^ (23 - j) = ((T / 2 ^ (23 - j) : Nat) : Int) := by simp
  rw [e]
  exact and_one _ (Nat.lt_of_le_of_lt (Nat.div_le_self _ _) (by omega))

/-- The bit and the size of node field i. -/
def fbit (i : Nat) : Nat := [0, 0, 1, 1, 2, 3, 4, 5, 6, 7, 8, 8, 9, 9, 10, 11].getD i 0
def fsz (i : Nat) : Nat := [1, 3, 2, 2, 4, 4, 4, 4, 4, 4, 1, 7, 4, 4, 8, 4].getD i 0
/-- The units of bit k. -/
def uw (k : Nat) : Nat := if k = 8 ∨ k = 9 ∨ k = 10 then 2 else if k ≤ 21 then 1 else 0
def units (T : Nat) : Nat → Nat
  | 0 => 0
  | i + 1 => units T i + if tbit T i then uw i else 0
theorem units_le (T i : Nat) : units T i ≤ 2 * i := by
  induction i with
  | zero => simp [units]
  | succ i ih =>
    rw [units]
    have : uw i ≤ 2 := by unfold uw; repeat' split
                          all_goals omega
    split <;> omega
end Go.Proofs.YbulkdycwFmt
