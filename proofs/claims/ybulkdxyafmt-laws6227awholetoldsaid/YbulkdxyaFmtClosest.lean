/- closest on a node that knows no other: by contract. -/
import Derived.Test.YbulkdxyaFmtRank
namespace Go.Proofs.YbulkdxyaFmt
open Go.RowKit
set_option linter.unusedSimpArgs false
set_option linter.unusedVariables false

/-- The node lies at N. -/
structure NX (w : World) (N : Nat) (R : Array Value) (id : Int) (ht : TypeId) (hv : Value) (m1 m3 : Nat) : Prop where
  at_ : w.heap[N]? = some (.cells R 97 (0, 0))
  nf : NF R id 1 ht hv m1 m3
theorem NX.keep {w w' : World} {N : Nat} {R : Array Value} {id : Int} {ht : TypeId} {hv : Value} {m1 m3 : Nat} (h : NX w N R id ht hv m1 m3) (hb : Below w.heap.size w w') : NX w' N R id ht hv m1 m3 :=
  ⟨(hb.block N (Array.getElem?_eq_some_iff.1 h.at_).1).trans h.at_, h.nf⟩
theorem NX.cell {w : World} {N : Nat} {R : Array Value} {id : Int} {ht : TypeId} {hv : Value} {m1 m3 : Nat} (h : NX w N R id ht hv m1 m3) {i : Nat} {v : Value} (hi : R[i]? = some v) : w.cell? ⟨N, i, none⟩ = some v := cell_of h.at_ hi
theorem NX.lt {w : World} {N : Nat} {R : Array Value} {id : Int} {ht : TypeId} {hv : Value} {m1 m3 : Nat} (h : NX w N R id ht hv m1 m3) : N < w.heap.size := (Array.getElem?_eq_some_iff.1 h.at_).1

set_option maxRecDepth 100000 in
set_option maxHeartbeats 2000000 in
theorem eachKnown_calls (N : Nat) (f : Value) (w : World) (c16 : w.cell? ⟨N, 16, none⟩ = some (.slice none 0 0)) (c251 : w.cell? ⟨N, 251, none⟩ = some (.slice none 0 0)) :
    Calls Ybaf.prog 50 #[.pointer (some ⟨N, 0, none⟩), f] w fun e w' => e = .returned (.tuple #[]) ∧ w = w' := by
  go_enter Ybaf.func50, Ybaf.ntmps50
  go_wp2_with fail
  go_loopg [5, 16] 0 (fun k x i wr => k = 0 ∧ i = .int .i64 0 ∧ wr = w)
  case atStart => exact ⟨rfl, rfl, rfl⟩
  case round =>
    obtain ⟨rfl, rfl, rfl⟩ := hrel
    go_wp2_with fail
    go_loopg [7, 9, 29, 40] 0 (fun k x y i z w' => k = 0 ∧ i = .int .i64 0 ∧ w' = wr)
    case atStart => exact ⟨rfl, rfl, rfl⟩
    case round =>
      obtain ⟨rfl, rfl, rfl⟩ := hrel
      go_wp2_with fail
      go_end0
      exact ⟨rfl, rfl⟩

set_option maxRecDepth 100000 in
set_option maxHeartbeats 4000000 in
theorem closest_calls (N : Nat) (R : Array Value) (id key : Int) (ht : TypeId) (hv : Value) (m1 m3 : Nat) (w : World) (hN : NX w N R id ht hv m1 m3) :
    Calls Ybaf.prog 23 #[.pointer (some ⟨N, 0, none⟩), .int .u64 key, .bool true, .pointer none] w fun e w' => ∃ bb, e = .returned (.slice (some ⟨bb, 0, none⟩) 1 1) ∧ w'.heap[bb]? = some (.cells #[.int .u64 id] 50 (0, 0)) ∧ Below w.heap.size w w' := by
  have HX : Hid (NX w N R id ht hv m1 m3) := hN
  have hlN := hN.lt
  clear hN
  obtain ⟨S, hS⟩ : ∃ S, w.heap.size = S := ⟨_, rfl⟩
  have HS : Hid (w.heap.size = S) := hS
  obtain ⟨w1, HW1⟩ : ∃ W : World, Hid (W = (w.alloc (.cells #[.pointer (some ⟨N, 0, none⟩)] 52)).alloc (.cells #[.pointer none] 148)) := ⟨_, rfl⟩
  have HB1 : Hid (Below S w w1) := by rw [HW1.out]; exact ((Below.refl _ _).alloc (by omega) _).alloc (by simp; omega) _
  have HX1 : Hid (NX w1 N R id ht hv m1 m3) := HX.out.keep (by rw [hS]; exact HB1.out)
  have hs1 : w1.heap.size = S + 2 := by rw [HW1.out, ← hS]; simp
  have HC1 : Hid (w1.heap[S]? = some (.cells #[.pointer (some ⟨N, 0, none⟩)] 52 (0, 0)) ∧ w1.heap[S + 1]? = some (.cells #[.pointer none] 148 (0, 0))) := by
    rw [HW1.out]
    refine ⟨?_, new_at (by simp [hS])⟩
    rw [Below.heap_alloc _ _ _ (by simp; omega)]
    exact new_at hS.symm
  rw [hS] at hlN
  have n1 : w1.cell? ⟨S, 0, none⟩ = some (.pointer (some ⟨N, 0, none⟩)) := cell_of HC1.out.1 rfl
  have c0 := HX1.out.cell HX.out.nf.id0
  have c2 := HX1.out.cell HX.out.nf.c2
  clear hS
  go_enter Ybaf.func23, Ybaf.ntmps23
  go_upto_region 1 with fail
  rw [← HW1.out, HS.out]
  go_upto_region 2 with (go_at_call 44; refine (newRanking_calls key _).mono ?_; rintro e' w2 ⟨bb, rfl, hbb, hb2, hbl2⟩; have HR2 : Hid (w1.heap.size ≤ bb ∧ w2.heap[bb]? = some (.cells #[.int .u64 0] 50 (0, 0)) ∧ Below w1.heap.size w1 w2) := ⟨hbb, hb2, hbl2⟩; clear hbb hb2 hbl2)
  obtain ⟨w3, HW3⟩ : ∃ W : World, Hid (W = w2.alloc (.cells #[.int .u64 key, .slice (some ⟨bb, 0, none⟩) 0 1] 150)) := ⟨_, rfl⟩
  obtain ⟨rb, hrb⟩ : ∃ x, w2.heap.size = x := ⟨_, rfl⟩
  rw [← HW3.out, hrb]
  have hs2 : w1.heap.size ≤ w2.heap.size := HR2.out.2.2.size
  have hbb2 : bb < w2.heap.size := (Array.getElem?_eq_some_iff.1 HR2.out.2.1).1
  have HB3 : Hid (Below w1.heap.size w1 w3) := by rw [HW3.out]; exact HR2.out.2.2.alloc hs2 _
  have hr3 : w3.heap[rb]? = some (.cells #[.int .u64 key, .slice (some ⟨bb, 0, none⟩) 0 1] 150 (0, 0)) := by rw [HW3.out]; exact new_at hrb.symm
  have hb3 : w3.heap[bb]? = some (.cells #[.int .u64 0] 50 (0, 0)) := by rw [HW3.out, Below.heap_alloc _ _ _ hbb2]; exact HR2.out.2.1
  have hs3 : w3.heap.size = rb + 1 := by rw [HW3.out, ← hrb]; simp
  have HO : Hid (Calls Ybaf.prog 45 #[.pointer (some ⟨rb, 0, none⟩), .int .u64 id] w3 _) := offer_calls rb bb key id w3 hr3 hb3
  have hbb1 : S + 2 ≤ bb := by have := HR2.out.1; omega
  have hrb1 : S + 2 ≤ rb := by omega
  clear n1 c0 c2
  have HX3 : Hid (NX w3 N R id ht hv m1 m3) := HX1.out.keep HB3.out
  have n1 : w3.cell? ⟨S, 0, none⟩ = some (.pointer (some ⟨N, 0, none⟩)) := cell_of ((HB3.out.block S (by omega)).trans HC1.out.1) rfl
  have c0 := HX3.out.cell HX.out.nf.id0
  go_upto_region 4 with (go_at_call 45; refine HO.out.mono ?_; rintro e' w4 ⟨rfl, hr4, hb4, hbl4⟩; have HR4 : Hid (w4.heap[rb]? = some (.cells #[.int .u64 key, .slice (some ⟨bb, 0, none⟩) 1 1] 150 (0, 0)) ∧ w4.heap[bb]? = some (.cells #[.int .u64 id] 50 (0, 0)) ∧ Below (S + 2) w3 w4) := ⟨hr4, hb4, hbl4 (S + 2) hrb1 hbb1 (by omega)⟩; clear hr4 hb4 hbl4)
  have HB4 : Hid (Below (S + 2) w1 w4) := (HB3.out.mono (by omega)).trans HR4.out.2.2
  clear n1 c0
  have hN4 : w4.heap[N]? = some (.cells R 97 (0, 0)) := (HB4.out.block N (by omega)).trans HX1.out.at_
  have hlN4 : N < w4.heap.size := (Array.getElem?_eq_some_iff.1 hN4).1
  have n1 : w4.cell? ⟨S, 0, none⟩ = some (.pointer (some ⟨N, 0, none⟩)) := cell_of ((HB4.out.block S (by omega)).trans HC1.out.1) rfl
  have n2 : w4.cell? ⟨S + 1, 0, none⟩ = some (.pointer none) := cell_of ((HB4.out.block (S + 1) (by omega)).trans HC1.out.2) rfl
  have hS4 : S + 1 < w4.heap.size := lt_of_cell n2
  have hS4' : S < w4.heap.size := by omega
  have hrb4 : rb < w4.heap.size := (Array.getElem?_eq_some_iff.1 HR4.out.1).1
  have hbb4 : bb < w4.heap.size := (Array.getElem?_eq_some_iff.1 HR4.out.2.1).1
  have c11 : w4.cell? ⟨N, 11, none⟩ = some (.bool false) := cell_of hN4 HX.out.nf.active
  have c13 : w4.cell? ⟨N, 13, none⟩ = some (.slice none 0 0) := cell_of hN4 HX.out.nf.contacts
  have c16 : w4.cell? ⟨N, 16, none⟩ = some (.slice none 0 0) := cell_of hN4 HX.out.nf.members
  have c251 : w4.cell? ⟨N, 251, none⟩ = some (.slice none 0 0) := cell_of hN4 HX.out.nf.views
  have r1 : w4.cell? ⟨rb, 1, none⟩ = some (.slice (some ⟨bb, 0, none⟩) 1 1) := cell_of HR4.out.1 rfl
  clear hN4
  go_upto_region 8 with fail
  go_upto_block 0 with fail
  go_wp2_with fail
  obtain ⟨w5, HW5⟩ : ∃ W : World, Hid (W = (w4.alloc (.cells #[.bool false] 4)).alloc (.cells #[.pointer none] 157)) := ⟨_, rfl⟩
  have hb5 : Below w4.heap.size w4 w5 := by rw [HW5.out]; exact ((Below.refl _ _).alloc (Nat.le_refl _) _).alloc (by simp) _
  rw [← HW5.out]
  replace n1 := (hb5.cell (p := ⟨S, 0, none⟩) hS4').trans n1
  replace n2 := (hb5.cell (p := ⟨S + 1, 0, none⟩) hS4).trans n2
  replace c16 := (hb5.cell (p := ⟨N, 16, none⟩) hlN4).trans c16
  replace c251 := (hb5.cell (p := ⟨N, 251, none⟩) hlN4).trans c251
  replace r1 := (hb5.cell (p := ⟨rb, 1, none⟩) hrb4).trans r1
  have HB5 : Hid (Below w4.heap.size w4 w5) := hb5
  clear hb5 c11 c13 HW5
  go_loopg [14, 59] 0 (fun k x i wr => k = 0 ∧ i = .int .i64 0 ∧ wr = w5)
  case atStart => exact ⟨rfl, rfl, rfl⟩
  case round =>
    obtain ⟨rfl, rfl, rfl⟩ := hrel
    go_wp2_with (go_at_call 50; refine (eachKnown_calls N _ _ c16 c251).mono ?_; rintro e' w' ⟨rfl, rfl⟩)
    go_ret
    refine ⟨bb, rfl, (HB5.out.block bb hbb4).trans HR4.out.2.1, ?_⟩
    rw [HS.out]
    exact (HB1.out.trans (HB4.out.mono (by omega))).trans (HB5.out.mono (by omega))
end Go.Proofs.YbulkdxyaFmt
