/- The arc's first live node: by contract. -/
import Derived.Test.YbulkdxyaFmtDead
namespace Go.Proofs.YbulkdxyaFmt
open Go.RowKit
set_option linter.unusedSimpArgs false
set_option linter.unusedVariables false

/-- The frame of first: its boxes. -/
structure FX (w0 w : World) (B N m3 : Nat) (S : Int → Bool) (a5 : Array Value) (t : Int) (f : Bool) (y : Int) : Prop where
  a : w.heap[B]? = some (.cells a5 123 (0, 0))
  t : w.heap[B + 1]? = some (.cells #[.int .u64 t] 50 (0, 0))
  r : w.heap[B + 2]? = some (.cells #[.int .u64 18446744073709551615] 30 (0, 0))
  g : w.heap[B + 3]? = some (.cells #[.func (.func 43) #[.pointer (some ⟨N, 0, none⟩)] #[]] 147 (0, 0))
  n : w.heap[B + 4]? = some (.cells #[.int .u64 y] 50 (0, 0))
  f : w.heap[B + 5]? = some (.cells #[.bool f] 4 (0, 0))
  dead : w.cell? ⟨N, 39, none⟩ = some (.map (some m3))
  dm : DMap w m3 S
  ltN : N < B
  ltm : m3 < B
  below : Below B w0 w
theorem FX.keep {w0 w w' : World} {B N m3 : Nat} {S : Int → Bool} {a5 : Array Value} {t : Int} {f : Bool} {y : Int} (h : FX w0 w B N m3 S a5 t f y) (hb : Below w.heap.size w w') : FX w0 w' B N m3 S a5 t f y := by
  have hl : B + 5 < w.heap.size := (Array.getElem?_eq_some_iff.1 h.f).1
  have hN := h.ltN
  have hm := h.ltm
  exact ⟨(hb.block _ (by omega)).trans h.a, (hb.block _ (by omega)).trans h.t, (hb.block _ (by omega)).trans h.r, (hb.block _ (by omega)).trans h.g, (hb.block _ (by omega)).trans h.n, (hb.block _ (by omega)).trans h.f, (hb.cell (p := ⟨N, 39, none⟩) (by show N < _; omega)).trans h.dead, h.dm.keep (hb.block _ (by omega)), hN, hm, h.below.trans (hb.mono (by omega))⟩
theorem FX.set {w0 w : World} {B N m3 : Nat} {S : Int → Bool} {a5 : Array Value} {t : Int} {f : Bool} {y : Int} (h : FX w0 w B N m3 S a5 t f y) (x : Int) : FX w0 ((w.setCell ⟨B + 4, 0, none⟩ (.int .u64 x)).setCell ⟨B + 5, 0, none⟩ (.bool true)) B N m3 S a5 t true x := by
  have hN := h.ltN
  have hm := h.ltm
  have hk : ∀ j, j ≠ B + 4 → j ≠ B + 5 → ((w.setCell ⟨B + 4, 0, none⟩ (.int .u64 x)).setCell ⟨B + 5, 0, none⟩ (.bool true)).heap[j]? = w.heap[j]? := fun j h1 h2 => (Below.heap_setCell _ _ _ _ h2).trans (Below.heap_setCell _ _ _ _ h1)
  have h4 := heap_setCell_same w (B + 4) 0 _ 50 (.int .u64 x) h.n
  have h5 := heap_setCell_same (w.setCell ⟨B + 4, 0, none⟩ (.int .u64 x)) (B + 5) 0 _ 4 (.bool true) ((Below.heap_setCell _ _ _ _ (show B + 5 ≠ B + 4 by omega)).trans h.f)
  refine ⟨(hk _ (by omega) (by omega)).trans h.a, (hk _ (by omega) (by omega)).trans h.t, (hk _ (by omega) (by omega)).trans h.r, (hk _ (by omega) (by omega)).trans h.g, ?_, ?_, ?_, h.dm.keep (hk _ (by omega) (by omega)), hN, hm, (h.below.setCell (p := ⟨B + 4, 0, none⟩) (by show B ≤ B + 4; omega) _).setCell (p := ⟨B + 5, 0, none⟩) (by show B ≤ B + 5; omega) _⟩
  · refine (Below.heap_setCell _ _ _ _ (show B + 4 ≠ B + 5 by omega)).trans ?_
    simpa using h4
  · simpa using h5
  · rw [World.cell?_of_block (w := w) (hk N (by omega) (by omega))]
    exact h.dead

set_option maxRecDepth 100000 in
set_option maxHeartbeats 4000000 in
theorem take_calls (w0 w : World) (B N m3 : Nat) (S : Int → Bool) (a5 : Array Value) (t x : Int) (f : Bool) (y : Int) (h : FX w0 w B N m3 S a5 t f y) :
    Calls Ybaf.prog 77 #[.int .u64 x, .pointer (some ⟨B + 1, 0, none⟩), .pointer (some ⟨B + 2, 0, none⟩), .pointer (some ⟨B + 3, 0, none⟩), .pointer (some ⟨B + 5, 0, none⟩), .pointer (some ⟨B + 4, 0, none⟩)] w fun e w' => e = .returned (.tuple #[]) ∧ ∃ y', FX w0 w' B N m3 S a5 t (f || !S x) y' := by
  have HF : Hid (FX w0 w B N m3 S a5 t f y) := h
  have c1 : w.cell? ⟨B + 1, 0, none⟩ = some (.int .u64 t) := cell_of h.t rfl
  have c2 : w.cell? ⟨B + 2, 0, none⟩ = some (.int .u64 18446744073709551615) := cell_of h.r rfl
  have c3 : w.cell? ⟨B + 3, 0, none⟩ = some (.func (.func 43) #[.pointer (some ⟨N, 0, none⟩)] #[]) := cell_of h.g rfl
  have hd := cw_bounds t x
  have hle : cw t x ≤ 18446744073709551615 := by omega
  have HD : Hid (Calls Ybaf.prog 43 #[.pointer (some ⟨N, 0, none⟩), .int .u64 x] w fun e w' => e = .returned (.bool (S x)) ∧ Below w.heap.size w w') := foundDead_calls N m3 S x w h.dead h.dm
  clear h
  generalize hsx : S x = sx at HD
  have HSX : Hid (S x = sx) := hsx
  clear hsx
  go_enter Ybaf.func77, Ybaf.ntmps77
  go_upto_region 1 with (go_at_call 60; refine (clockwise_calls _ _ _).mono ?_; rintro e' w' ⟨rfl, rfl⟩)
  cases sx
  · cases f
    · go_wp2_with (first
        | (go_at_call 43; refine HD.out.mono ?_; rintro e' w2 ⟨rfl, hb2⟩; have HF2 : Hid (FX w0 w2 B N m3 S a5 t false y) := HF.out.keep hb2; have d4 : w2.cell? ⟨B + 4, 0, none⟩ = some (.int .u64 y) := cell_of HF2.out.n rfl; have d5 : w2.cell? ⟨B + 5, 0, none⟩ = some (.bool false) := cell_of HF2.out.f rfl; have f4 : w2.frozen? ⟨B + 4, 0, none⟩ = false := frozen_of HF2.out.n; have f5 : w2.frozen? ⟨B + 5, 0, none⟩ = false := frozen_of HF2.out.f; clear hb2))
      go_end0
      refine ⟨rfl, x, ?_⟩
      exact HF2.out.set x
    · by_cases hlt : cw t x < cw t y
      · go_wp2_with (first
          | (go_at_call 60; refine (clockwise_calls _ _ _).mono ?_; rintro e' w' ⟨rfl, rfl⟩)
          | (go_at_call 43; refine HD.out.mono ?_; rintro e' w2 ⟨rfl, hb2⟩; have HF2 : Hid (FX w0 w2 B N m3 S a5 t true y) := HF.out.keep hb2; have d1 : w2.cell? ⟨B + 1, 0, none⟩ = some (.int .u64 t) := cell_of HF2.out.t rfl; have d4 : w2.cell? ⟨B + 4, 0, none⟩ = some (.int .u64 y) := cell_of HF2.out.n rfl; have d5 : w2.cell? ⟨B + 5, 0, none⟩ = some (.bool true) := cell_of HF2.out.f rfl; have f4 : w2.frozen? ⟨B + 4, 0, none⟩ = false := frozen_of HF2.out.n; have f5 : w2.frozen? ⟨B + 5, 0, none⟩ = false := frozen_of HF2.out.f; clear hb2))
        go_end0
        refine ⟨rfl, x, ?_⟩
        exact HF2.out.set x
      · go_wp2_with (first
          | (go_at_call 60; refine (clockwise_calls _ _ _).mono ?_; rintro e' w' ⟨rfl, rfl⟩)
          | (go_at_call 43; refine HD.out.mono ?_; rintro e' w2 ⟨rfl, hb2⟩; have HF2 : Hid (FX w0 w2 B N m3 S a5 t true y) := HF.out.keep hb2; have d1 : w2.cell? ⟨B + 1, 0, none⟩ = some (.int .u64 t) := cell_of HF2.out.t rfl; have d4 : w2.cell? ⟨B + 4, 0, none⟩ = some (.int .u64 y) := cell_of HF2.out.n rfl; have d5 : w2.cell? ⟨B + 5, 0, none⟩ = some (.bool true) := cell_of HF2.out.f rfl; clear hb2))
        go_end0
        refine ⟨rfl, y, ?_⟩
        exact HF2.out
  · go_wp2_with (go_at_call 43; refine HD.out.mono ?_; rintro e' w2 ⟨rfl, hb2⟩; have HF2 : Hid (FX w0 w2 B N m3 S a5 t f y) := HF.out.keep hb2; clear hb2)
    go_end0
    refine ⟨rfl, y, ?_⟩
    simpa using HF2.out

/-- The n identifiers of a slice. -/
def OV (w : World) (a : Option Addr) (n : Nat) (vv : Nat → Int) : Prop := 0 < n → ∃ ad, a = some ad ∧ ∀ i, i < n → w.cell? (ad.add i) = some (.int .u64 (vv i))
theorem OV.keep {w w' : World} {a : Option Addr} {n : Nat} {vv : Nat → Int} (h : OV w a n vv) (hb : Below w.heap.size w w') : OV w' a n vv := fun hn => by
  obtain ⟨ad, e, q⟩ := h hn
  exact ⟨ad, e, fun i hi => (hb.cell (lt_of_cell (q i hi))).trans (q i hi)⟩
/-- One of the first k is live. -/
def al (S : Int → Bool) (vv : Nat → Int) : Nat → Bool
  | 0 => false
  | k + 1 => al S vv k || !S (vv k)

set_option maxRecDepth 100000 in
set_option maxHeartbeats 4000000 in
theorem first_calls (N m3 : Nat) (S : Int → Bool) (id t : Int) (vp : Option Addr) (n c : Nat) (vv : Nat → Int) (w : World) (c39 : w.cell? ⟨N, 39, none⟩ = some (.map (some m3))) (hm : DMap w m3 S) (hv : OV w vp n vv) (hn : n ≤ 1000000) :
    Calls Ybaf.prog 66 #[.agg #[.int .u64 id, .slice vp n c, .int .i64 0, .int .i64 0, .bool true], .int .u64 t, .int .u64 18446744073709551615, .func (.func 43) #[.pointer (some ⟨N, 0, none⟩)] #[]] w fun e w' => ∃ y, e = .returned (.tuple #[.int .u64 y, .bool (!S id || al S vv n)]) ∧ Below w.heap.size w w' := by
  obtain ⟨B, hB⟩ : ∃ B, w.heap.size = B := ⟨_, rfl⟩
  have HB : Hid (w.heap.size = B) := hB
  obtain ⟨w1, HW1⟩ : ∃ W : World, Hid (W = (((((w.alloc (.cells #[.int .u64 id, .slice vp n c, .int .i64 0, .int .i64 0, .bool true] 123)).alloc (.cells #[.int .u64 t] 50)).alloc (.cells #[.int .u64 18446744073709551615] 30)).alloc (.cells #[.func (.func 43) #[.pointer (some ⟨N, 0, none⟩)] #[]] 147)).alloc (.cells #[.int .u64 0] 50)).alloc (.cells #[.bool false] 4)) := ⟨_, rfl⟩
  have hb1 : Below B w w1 := by rw [HW1.out]; exact ((((((Below.refl _ _).alloc (by omega) _).alloc (by simp; omega) _).alloc (by simp; omega) _).alloc (by simp; omega) _).alloc (by simp; omega) _).alloc (by simp; omega) _
  have hF1 : FX w w1 B N m3 S #[.int .u64 id, .slice vp n c, .int .i64 0, .int .i64 0, .bool true] t false 0 := by
    have hN : N < B := by rw [← hB]; exact lt_of_cell c39
    have hm3 : m3 < B := by rw [← hB]; exact hm.lt
    refine ⟨?_, ?_, ?_, ?_, ?_, ?_, (hb1.cell (p := ⟨N, 39, none⟩) hN).trans c39, hm.keep (hb1.block _ hm3), hN, hm3, hb1⟩
    · rw [HW1.out, Below.heap_alloc _ _ _ (by simp; omega), Below.heap_alloc _ _ _ (by simp; omega), Below.heap_alloc _ _ _ (by simp; omega), Below.heap_alloc _ _ _ (by simp; omega), Below.heap_alloc _ _ _ (by simp; omega)]; exact new_at hB.symm
    · rw [HW1.out, Below.heap_alloc _ _ _ (by simp; omega), Below.heap_alloc _ _ _ (by simp; omega), Below.heap_alloc _ _ _ (by simp; omega), Below.heap_alloc _ _ _ (by simp; omega)]; exact new_at (by simp; omega)
    · rw [HW1.out, Below.heap_alloc _ _ _ (by simp; omega), Below.heap_alloc _ _ _ (by simp; omega), Below.heap_alloc _ _ _ (by simp; omega)]; exact new_at (by simp; omega)
    · rw [HW1.out, Below.heap_alloc _ _ _ (by simp; omega), Below.heap_alloc _ _ _ (by simp; omega)]; exact new_at (by simp; omega)
    · rw [HW1.out, Below.heap_alloc _ _ _ (by simp; omega)]; exact new_at (by simp; omega)
    · rw [HW1.out]; exact new_at (by simp; omega)
  have HV : Hid (∀ W : World, Below B w W → OV W vp n vv) := fun W hW => hv.keep (by rw [hB]; exact hW)
  have HF1 : Hid (FX w w1 B N m3 S #[.int .u64 id, .slice vp n c, .int .i64 0, .int .i64 0, .bool true] t false 0) := hF1
  have a0 : w1.cell? ⟨B, 0, none⟩ = some (.int .u64 id) := cell_of hF1.a rfl
  have HT : Hid (Calls Ybaf.prog 77 _ _ _) := take_calls w w1 B N m3 S _ t id false 0 hF1
  clear hF1 hb1 hv hm c39 hB
  go_enter Ybaf.func66, Ybaf.ntmps66
  go_upto_region 4 with fail
  rw [← HW1.out, HB.out]
  go_upto_region 5 with (go_at_call 77; refine HT.out.mono ?_; rintro e' w2 ⟨rfl, y2, hf2⟩; have HF2 : Hid (FX w w2 B N m3 S #[.int .u64 id, .slice vp n c, .int .i64 0, .int .i64 0, .bool true] t (false || !S id) y2) := hf2; clear hf2)
  rw [Bool.false_or] at HF2
  have a1 : w2.cell? ⟨B, 1, none⟩ = some (.slice vp n c) := cell_of HF2.out.a rfl
  clear a0 HT HF1
  go_upto_block 0 with fail
  go_wp2_with fail
  go_loopg [14, 23] n (fun k x i wr => ∃ (j : Nat) (y : Int), k = n - j ∧ j ≤ n ∧ i = .int .i64 j ∧ Hid (FX w wr B N m3 S #[.int .u64 id, .slice vp n c, .int .i64 0, .int .i64 0, .bool true] t (!S id || al S vv j) y))
  case atStart => exact ⟨0, y2, rfl, by omega, rfl, by simpa [al] using HF2⟩
  case round =>
    clear HF2 a1
    obtain ⟨j, y, rfl, hj, rfl, HL⟩ := hrel
    by_cases hjl : j < n
    · have hjl' : (j : Int) < (n : Int) := by omega
      obtain ⟨ad, hvp, hcell⟩ := HV.out wr HL.out.below (by omega)
      subst hvp
      have d := hcell j hjl
      have HT : Hid (Calls Ybaf.prog 77 _ _ _) := take_calls w wr B N m3 S _ t (vv j) _ y HL.out
      clear hcell
      go_wp2_with (go_at_call 77; refine HT.out.mono ?_; rintro e' w3 ⟨rfl, y3, hf3⟩; have HF3 : Hid (FX w w3 B N m3 S #[.int .u64 id, .slice (some ad) n c, .int .i64 0, .int .i64 0, .bool true] t (!S id || al S vv j || !S (vv j)) y3) := hf3; clear hf3)
      go_roundg (n - (j + 1))
      case measure => omega
      case rel => exact ⟨j + 1, y3, rfl, by omega, by go_num, by rw [al, ← Bool.or_assoc]; exact HF3⟩
    · obtain rfl : j = n := by omega
      have n4 : wr.cell? ⟨B + 4, 0, none⟩ = some (.int .u64 y) := cell_of HL.out.n rfl
      have n5 : wr.cell? ⟨B + 5, 0, none⟩ = some (.bool (!S id || al S vv j)) := cell_of HL.out.f rfl
      generalize hz : (!S id || al S vv j) = z at n5 HL ⊢
      have HZ : Hid (_ = z) := hz
      clear hz
      go_upto_region 10 with fail
      go_quiet (fail)
      go_wp2_with fail
      go_ret2
      exact ⟨y, by rw [HZ.out]; rfl, by rw [HB.out]; exact below_drewN HL.out.below _⟩
end Go.Proofs.YbulkdxyaFmt
