/- Reading bytes, by contract. -/
import Derived.Test.YbulkdycwFmtSmall
import Derived.Lib.EndianBits
namespace Go.Proofs.YbulkdycwFmt
open Go.RowKit
set_option linter.unusedSimpArgs false
set_option linter.unusedVariables false

def OBs (w : World) (a : Option Addr) (n : Nat) (dv : Nat → Int) (p : Nat) : Prop := 0 < n → ∃ ad, a = some ad ∧ BsAt w ad n dv p
theorem OBs.keep {w w' : World} {a : Option Addr} {n p B : Nat} {dv : Nat → Int} (h : OBs w a n dv p) (hb : Below B w w') (hB : w.heap.size ≤ B) : OBs w' a n dv p :=
  fun hn => by obtain ⟨ad, e, q⟩ := h hn; exact ⟨ad, e, q.keep hb hB⟩

set_option maxRecDepth 100000 in
set_option maxHeartbeats 2000000 in
theorem byteseq_calls (a a' : Option Addr) (n c c' p p' : Nat) (dv dv' : Nat → Int) (w : World) (hn : n ≤ 1073741824) (h : OBs w a n dv p) (h' : OBs w a' n dv' p') (he : ∀ i, i < n → dv (p + i) = dv' (p' + i)) :
    Calls Ybaf.prog 6 #[.slice a n c, .slice a' n c'] w fun e w' => e = .returned (.bool true) ∧ ∃ q, w' = w.drewN q := by
  have HB : Hid (OBs w a n dv p) := h
  have HB' : Hid (OBs w a' n dv' p') := h'
  clear h h'
  go_enter Ybaf.func6, Ybaf.ntmps6
  go_wp2_with fail
  go_loopw [5] (fun i wr => ∃ j : Nat, j ≤ n ∧ i = .int .i64 j ∧ ∃ q, wr = w.drewN q) (fun i _ => n - (intOf i).toNat)
  case atStart => exact ⟨0, by omega, rfl, 0, rfl⟩
  case round =>
    obtain ⟨j, hj, rfl, q, rfl⟩ := hrel
    by_cases hlt : j < n
    · have hlt' : (j : Int) < (n : Int) := by omega
      obtain ⟨ad, rfl, hb⟩ := HB.out (by omega)
      obtain ⟨ad', rfl, hb'⟩ := HB'.out (by omega)
      have c0 := hb j hlt
      have c1 := hb' j hlt
      rw [← he j hlt] at c1
      clear hb hb'
      go_upto_region 6 with fail
      go_quiet (fail)
      go_wp2
      go_roundw
      case rel => exact ⟨j + 1, by omega, by go_num, _, rfl⟩
      case measure => simp [intOf]; omega
    · have hlt' : ¬ (j : Int) < (n : Int) := by omega
      go_wp2
      go_ret
      exact ⟨rfl, _, rfl⟩

theorem BsAt.plain {w : World} {ad : Addr} {n p : Nat} {dv : Nat → Int} (h : BsAt w ad n dv p) (hn : 0 < n) : ∃ b off, ad = ⟨b, off, none⟩ ∧ b < w.heap.size ∧ ∀ i, i < n → w.cell? ⟨b, off + i, none⟩ = some (.int .u8 (dv (p + i))) := by
  have h0 := h 0 hn
  obtain ⟨b, off, spot⟩ := ad
  have hspot : spot = none := by simpa [Addr.add] using World.cell?_spot h0
  subst hspot
  have hlt := lt_of_cell h0
  refine ⟨b, off, rfl, by simpa [Addr.add] using hlt, fun i hi => ?_⟩
  have := h i hi
  unfold Addr.add at this
  by_cases h0 : i = 0
  · subst h0; simpa using this
  · simpa [h0] using this
theorem cell_alloc_of {w : World} {a : Addr} {u : Value} (h : w.cell? a = some u) (o : Obj) : (w.alloc o).cell? a = some u := by
  rw [World.cell?_alloc_lt _ _ _ (lt_of_cell h)]; exact h

theorem or16 (x0 x1 : Int) (h0 : 0 ≤ x0 ∧ x0 ≤ 255) (h1 : 0 ≤ x1 ∧ x1 ≤ 255) : bits .or .u16 x1 (x0 * 256) = (0 * 256 + x0) * 256 + x1 := by
  rw [u16_or8 _ _ (by omega) (by omega) (by omega) (by omega) (by omega)]; omega
theorem or32 (x0 x1 x2 x3 : Int) (h0 : 0 ≤ x0 ∧ x0 ≤ 255) (h1 : 0 ≤ x1 ∧ x1 ≤ 255) (h2 : 0 ≤ x2 ∧ x2 ≤ 255) (h3 : 0 ≤ x3 ∧ x3 ≤ 255) :
    bits .or .u32 (bits .or .u32 (bits .or .u32 x3 (x2 * 256)) (x1 * 65536)) (x0 * 16777216) = (((0 * 256 + x0) * 256 + x1) * 256 + x2) * 256 + x3 := by
  rw [u32_or8 x3 (x2 * 256) (by omega) (by omega) (by omega) (by omega) (by omega), u32_or16 _ (x1 * 65536) (by omega) (by omega) (by omega) (by omega) (by omega), u32_or24 _ (x0 * 16777216) (by omega) (by omega) (by omega) (by omega) (by omega)]; omega
theorem or64 (x0 x1 x2 x3 x4 x5 x6 x7 : Int) (h0 : 0 ≤ x0 ∧ x0 ≤ 255) (h1 : 0 ≤ x1 ∧ x1 ≤ 255) (h2 : 0 ≤ x2 ∧ x2 ≤ 255) (h3 : 0 ≤ x3 ∧ x3 ≤ 255) (h4 : 0 ≤ x4 ∧ x4 ≤ 255) (h5 : 0 ≤ x5 ∧ x5 ≤ 255) (h6 : 0 ≤ x6 ∧ x6 ≤ 255) (h7 : 0 ≤ x7 ∧ x7 ≤ 255) :
    bits .or .u64 (bits .or .u64 (bits .or .u64 (bits .or .u64 (bits .or .u64 (bits .or .u64 (bits .or .u64 x7 (x6 * 256)) (x5 * 65536)) (x4 * 16777216)) (x3 * 4294967296)) (x2 * 1099511627776)) (x1 * 281474976710656)) (x0 * 72057594037927936)
      = (((((((0 * 256 + x0) * 256 + x1) * 256 + x2) * 256 + x3) * 256 + x4) * 256 + x5) * 256 + x6) * 256 + x7 := by
  have j := fun (i : Nat) (y x : Int) a b c d e f => bits_join_low .u64 64 (by decide) wraps_u64 i y x a b c d e f
  rw [j 8 x7 (x6 * 256) (by omega) (by omega) (by omega) (by omega) (by omega) (by omega), j 16 _ (x5 * 65536) (by omega) (by omega) (by omega) (by omega) (by omega) (by omega),
    j 24 _ (x4 * 16777216) (by omega) (by omega) (by omega) (by omega) (by omega) (by omega), j 32 _ (x3 * 4294967296) (by omega) (by omega) (by omega) (by omega) (by omega) (by omega),
    j 40 _ (x2 * 1099511627776) (by omega) (by omega) (by omega) (by omega) (by omega) (by omega), j 48 _ (x1 * 281474976710656) (by omega) (by omega) (by omega) (by omega) (by omega) (by omega),
    j 56 _ (x0 * 72057594037927936) (by omega) (by omega) (by omega) (by omega) (by omega) (by omega)]
  omega
set_option maxRecDepth 100000 in
set_option maxHeartbeats 2000000 in
theorem u16_calls (ad : Addr) (n c p : Nat) (dv : Nat → Int) (w : World) (hn : 2 ≤ n) (hd : Bytes dv) (hb : BsAt w ad n dv p) :
    Calls Ybaf.prog 13 #[.agg #[], .slice (some ad) n c] w fun e w' => e = .returned (.int .u16 (be dv p 2)) ∧ Below w.heap.size w w' := by
  obtain ⟨b, off, rfl, hlt, hc⟩ := hb.plain (by omega)
  have c0 := fun o => cell_alloc_of (hc 0 (by omega)) o
  have c1 := fun o => cell_alloc_of (hc 1 (by omega)) o
  have x0 := hd p
  have x1 := hd (p + 1)
  simp only [Nat.add_zero] at c0
  clear hb hc
  go_enter Ybaf.func13, Ybaf.ntmps13
  go_upto_region 2 with fail
  go_quiet (fail)
  go_wp2
  go_ret
  exact ⟨by rw [or16 _ _ x0 x1]; rfl, below_drewN ((Below.refl _ _).alloc (Nat.le_refl _) _) _⟩

set_option maxRecDepth 100000 in
set_option maxHeartbeats 2000000 in
theorem u32_calls (ad : Addr) (n c p : Nat) (dv : Nat → Int) (w : World) (hn : 4 ≤ n) (hd : Bytes dv) (hb : BsAt w ad n dv p) :
    Calls Ybaf.prog 14 #[.agg #[], .slice (some ad) n c] w fun e w' => e = .returned (.int .u32 (be dv p 4)) ∧ Below w.heap.size w w' := by
  obtain ⟨b, off, rfl, hlt, hc⟩ := hb.plain (by omega)
  have c0 := fun o => cell_alloc_of (hc 0 (by omega)) o
  have c1 := fun o => cell_alloc_of (hc 1 (by omega)) o
  have c2 := fun o => cell_alloc_of (hc 2 (by omega)) o
  have c3 := fun o => cell_alloc_of (hc 3 (by omega)) o
  have x0 := hd p
  have x1 := hd (p + 1)
  have x2 := hd (p + 2)
  have x3 := hd (p + 3)
  simp only [Nat.add_zero] at c0
  clear hb hc
  go_enter Ybaf.func14, Ybaf.ntmps14
  go_upto_region 2 with fail
  go_quiet (fail)
  go_wp2
  go_ret
  exact ⟨by rw [or32 _ _ _ _ x0 x1 x2 x3]; rfl, below_drewN ((Below.refl _ _).alloc (Nat.le_refl _) _) _⟩

set_option maxRecDepth 100000 in
set_option maxHeartbeats 2000000 in
theorem u64_calls (ad : Addr) (n c p : Nat) (dv : Nat → Int) (w : World) (hn : 8 ≤ n) (hd : Bytes dv) (hb : BsAt w ad n dv p) :
    Calls Ybaf.prog 30 #[.agg #[], .slice (some ad) n c] w fun e w' => e = .returned (.int .u64 (be dv p 8)) ∧ Below w.heap.size w w' := by
  obtain ⟨b, off, rfl, hlt, hc⟩ := hb.plain (by omega)
  have c0 := fun o => cell_alloc_of (hc 0 (by omega)) o
  have c1 := fun o => cell_alloc_of (hc 1 (by omega)) o
  have c2 := fun o => cell_alloc_of (hc 2 (by omega)) o
  have c3 := fun o => cell_alloc_of (hc 3 (by omega)) o
  have c4 := fun o => cell_alloc_of (hc 4 (by omega)) o
  have c5 := fun o => cell_alloc_of (hc 5 (by omega)) o
  have c6 := fun o => cell_alloc_of (hc 6 (by omega)) o
  have c7 := fun o => cell_alloc_of (hc 7 (by omega)) o
  have x0 := hd p
  have x1 := hd (p + 1)
  have x2 := hd (p + 2)
  have x3 := hd (p + 3)
  have x4 := hd (p + 4)
  have x5 := hd (p + 5)
  have x6 := hd (p + 6)
  have x7 := hd (p + 7)
  simp only [Nat.add_zero] at c0
  clear hb hc
  go_enter Ybaf.func30, Ybaf.ntmps30
  go_upto_region 2 with fail
  go_quiet (fail)
  go_wp2
  go_ret
  exact ⟨by rw [or64 _ _ _ _ _ _ _ _ x0 x1 x2 x3 x4 x5 x6 x7]; rfl, below_drewN ((Below.refl _ _).alloc (Nat.le_refl _) _) _⟩
end Go.Proofs.YbulkdycwFmt
