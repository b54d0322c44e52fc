/- readUint, OnesCount64, undefinedSize, traceBit: by contract. -/
import Derived.Test.YbulkdycwFmtRead
namespace Go.Proofs.YbulkdycwFmt
open Go.RowKit
set_option linter.unusedSimpArgs false
set_option linter.unusedVariables false

set_option maxRecDepth 100000 in
set_option maxHeartbeats 2000000 in
theorem readUint_calls (ad : Addr) (n c p : Nat) (dv : Nat → Int) (w : World) (hn : n ≤ 8) (hd : Bytes dv) (hb : BsAt w ad n dv p) :
    Calls Ybaf.prog 25 #[.slice (some ad) n c] w fun e w' => e = .returned (.int .u64 (be dv p n)) ∧ Below w.heap.size w w' := by
  have HB : Hid (BsAt w ad n dv p) := hb
  clear hb
  go_enter Ybaf.func25, Ybaf.ntmps25
  by_cases h1 : n = 1
  · subst h1
    obtain ⟨b, off, rfl, hlt, hc⟩ := HB.out.plain (by omega)
    have c0 := hc 0 (by omega)
    have x0 := hd p
    simp only [Nat.add_zero] at c0
    clear hc
    go_wp2
    go_ret
    exact ⟨by simp [be], Below.refl _ _⟩
  by_cases h2 : n = 2
  · subst h2
    have x0 := (be_bounds hd p 2)
    go_wp2_with (go_at_call 13; refine (u16_calls ad 2 c p dv _ (by omega) hd HB.out).mono ?_; rintro e' w' ⟨rfl, hb⟩; have HBw : Hid (Below w.heap.size w w') := hb; clear hb)
    go_ret
    exact ⟨rfl, HBw.out⟩
  by_cases h4 : n = 4
  · subst h4
    have x0 := (be_bounds hd p 4)
    go_wp2_with (go_at_call 14; refine (u32_calls ad 4 c p dv _ (by omega) hd HB.out).mono ?_; rintro e' w' ⟨rfl, hb⟩; have HBw : Hid (Below w.heap.size w w') := hb; clear hb)
    go_ret
    exact ⟨rfl, HBw.out⟩
  by_cases h8 : n = 8
  · subst h8
    go_wp2_with (go_at_call 30; refine (u64_calls ad 8 c p dv _ (by omega) hd HB.out).mono ?_; rintro e' w' ⟨rfl, hb⟩; have HBw : Hid (Below w.heap.size w w') := hb; clear hb)
    go_ret
    exact ⟨rfl, HBw.out⟩
  have g1 : ((n : Int) == 1) = false := by simp; omega
  have g2 : ((n : Int) == 2) = false := by simp; omega
  have g4 : ((n : Int) == 4) = false := by simp; omega
  have g8 : ((n : Int) == 8) = false := by simp; omega
  go_wp2_with fail
  go_loop [3, 33] (fun v i => ∃ j : Nat, j ≤ n ∧ i = .int .i64 j ∧ v = .int .u64 (be dv p j)) (fun _ i => n - (intOf i).toNat)
  case atStart => exact ⟨0, by omega, rfl, rfl⟩
  case round =>
    obtain ⟨j, hj, rfl, rfl⟩ := hrel
    by_cases hlt : j < n
    · have hlt' : (j : Int) < (n : Int) := by omega
      have c0 := HB.out j hlt
      have hx := hd (p + j)
      have hv := be_bounds hd p j
      have hv1 := be_lt56 hd p (show j ≤ 7 by omega)
      go_wp2
      exact ⟨⟨j + 1, hlt, by go_num, by rw [or8_u64 _ _ hv.1 hv1 hx.1 (by omega)]; rfl⟩, by simp [intOf]; omega⟩
    · have hlt' : ¬ (j : Int) < (n : Int) := by omega
      obtain rfl : j = n := by omega
      go_wp2
      go_ret
      exact ⟨rfl, Below.refl _ _⟩

set_option maxRecDepth 100000 in
set_option maxHeartbeats 2000000 in
theorem traceBit12_calls (w : World) : Calls Ybaf.prog 24 #[.int .i64 12] w fun e w' => e = .returned (.int .u32 2048) ∧ w = w' := by
  go_enter Ybaf.func24, Ybaf.ntmps24
  go_wp2
  go_ret
  exact ⟨rfl, rfl⟩

/-- OnesCount64's six steps. -/
def o1 (x : Int) : Int := IntKind.u64.wrap (bits .and .u64 (x / 2) 6148914691236517205 + bits .and .u64 x 6148914691236517205)
def o2 (x : Int) : Int := IntKind.u64.wrap (bits .and .u64 (x / 4) 3689348814741910323 + bits .and .u64 x 3689348814741910323)
def o3 (x : Int) : Int := bits .and .u64 (IntKind.u64.wrap (x / 16 + x)) 1085102592571150095
def o4 (x : Int) : Int := IntKind.u64.wrap (x + x / 256)
def o5 (x : Int) : Int := IntKind.u64.wrap (x + x / 65536)
def o6 (x : Int) : Int := IntKind.u64.wrap (x + x / 4294967296)
def n1 (x : Nat) : Nat := ((x / 2 &&& 6148914691236517205) + (x &&& 6148914691236517205)) % 18446744073709551616
def n2 (x : Nat) : Nat := ((x / 4 &&& 3689348814741910323) + (x &&& 3689348814741910323)) % 18446744073709551616
def n3 (x : Nat) : Nat := ((x / 16 + x) % 18446744073709551616) &&& 1085102592571150095
def n4 (x : Nat) : Nat := (x + x / 256) % 18446744073709551616
def n5 (x : Nat) : Nat := (x + x / 65536) % 18446744073709551616
def n6 (x : Nat) : Nat := (x + x / 4294967296) % 18446744073709551616
theorem uand (a b : Nat) (ha : a < 18446744073709551616) (hb : b < 18446744073709551616) : bits .and .u64 (a : Int) (b : Int) = ((a &&& b : Nat) : Int) :=
  (bits_nat .u64 64 (by decide) wraps_u64 a b ha hb).1
theorem uwrap (a : Nat) : IntKind.u64.wrap (a : Int) = ((a % 18446744073709551616 : Nat) : Int) := by
  rw [IntKind.wrap_u64]; simp
theorem o1_eq (x : Nat) (hx : x < 18446744073709551616) : o1 x = (n1 x : Nat) := by
  have h1 := uand (x / 2) 6148914691236517205 (by omega) (by omega)
  have h2 := uand x 6148914691236517205 hx (by omega)
  have h3 := uwrap ((x / 2 &&& 6148914691236517205) + (x &&& 6148914691236517205))
  simp only [Int.natCast_add, Int.natCast_ediv] at h1 h2 h3
  unfold o1 n1
  rw [show ((2 : Int)) = ((2 : Nat) : Int) from rfl, show ((6148914691236517205 : Int)) = ((6148914691236517205 : Nat) : Int) from rfl, h1, h2, h3]
theorem o2_eq (x : Nat) (hx : x < 18446744073709551616) : o2 x = (n2 x : Nat) := by
  have h1 := uand (x / 4) 3689348814741910323 (by omega) (by omega)
  have h2 := uand x 3689348814741910323 hx (by omega)
  have h3 := uwrap ((x / 4 &&& 3689348814741910323) + (x &&& 3689348814741910323))
  simp only [Int.natCast_add, Int.natCast_ediv] at h1 h2 h3
  unfold o2 n2
  rw [show ((4 : Int)) = ((4 : Nat) : Int) from rfl, show ((3689348814741910323 : Int)) = ((3689348814741910323 : Nat) : Int) from rfl, h1, h2, h3]
theorem o3_eq (x : Nat) : o3 x = (n3 x : Nat) := by
  have h3 := uwrap (x / 16 + x)
  have h1 := uand ((x / 16 + x) % 18446744073709551616) 1085102592571150095 (Nat.mod_lt _ (by omega)) (by omega)
  simp only [Int.natCast_add, Int.natCast_ediv] at h3
  unfold o3 n3
  rw [show ((16 : Int)) = ((16 : Nat) : Int) from rfl, h3]
  exact h1
theorem o4_eq (x : Nat) : o4 x = (n4 x : Nat) := by
  have h3 := uwrap (x + x / 256)
  simp only [Int.natCast_add, Int.natCast_ediv] at h3
  exact h3
theorem o5_eq (x : Nat) : o5 x = (n5 x : Nat) := by
  have h3 := uwrap (x + x / 65536)
  simp only [Int.natCast_add, Int.natCast_ediv] at h3
  exact h3
theorem o6_eq (x : Nat) : o6 x = (n6 x : Nat) := by
  have h3 := uwrap (x + x / 4294967296)
  simp only [Int.natCast_add, Int.natCast_ediv] at h3
  exact h3
/-- The bits 2 to 11 of x, counted. -/
def cnt10 (x : Nat) : Nat := x / 4 % 2 + x / 8 % 2 + x / 16 % 2 + x / 32 % 2 + x / 64 % 2 + x / 128 % 2 + x / 256 % 2 + x / 512 % 2 + x / 1024 % 2 + x / 2048 % 2
set_option maxRecDepth 100000 in
theorem pop_all : ∀ m : Fin 1024, n6 (n5 (n4 (n3 (n2 (n1 (4 * m.val)))))) < 4611686018427387904 ∧ n6 (n5 (n4 (n3 (n2 (n1 (4 * m.val)))))) &&& 127 = cnt10 (4 * m.val) := by decide +kernel
theorem pop_eq (m : Nat) (hm : m < 1024) : bits .and .i64 (wrap64 (o6 (o5 (o4 (o3 (o2 (o1 ((4 * m : Nat) : Int)))))))) 127 = (cnt10 (4 * m) : Nat) := by
  have h := pop_all ⟨m, hm⟩
  have b1 : n1 (4 * m) < 18446744073709551616 := Nat.mod_lt _ (by omega)
  rw [o1_eq _ (by omega), o2_eq _ b1, o3_eq, o4_eq, o5_eq, o6_eq]
  have hw : wrap64 ((n6 (n5 (n4 (n3 (n2 (n1 (4 * m)))))) : Nat) : Int) = ((n6 (n5 (n4 (n3 (n2 (n1 (4 * m)))))) : Nat) : Int) := by
    unfold wrap64
    have := h.1
    simp only at this
    omega
  rw [hw]
  have hb := (bits_nat .i64 62 (by decide) (fun n h0 h1 => by rw [IntKind.wrap_i64]; omega) (n6 (n5 (n4 (n3 (n2 (n1 (4 * m))))))) 127 h.1 (by decide)).1
  exact hb.trans (congrArg _ h.2)

set_option maxRecDepth 100000 in
set_option maxHeartbeats 2000000 in
theorem ones_calls (m : Nat) (hm : m < 1024) (w : World) : Calls Ybaf.prog 31 #[.int .u64 (4 * m : Nat)] w fun e w' => e = .returned (.int .i64 (cnt10 (4 * m))) ∧ w = w' := by
  rw [← pop_eq m hm]
  obtain ⟨x, hx⟩ : ∃ x : Int, ((4 * m : Nat) : Int) = x := ⟨_, rfl⟩
  rw [hx]
  have hx0 : 0 ≤ x := by omega
  clear hx hm m
  go_enter Ybaf.func31, Ybaf.ntmps31
  go_wp2
  go_ret
  exact ⟨rfl, rfl⟩
end Go.Proofs.YbulkdycwFmt
