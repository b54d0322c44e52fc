/- The parser's tok and advance, by contract. -/
import Derived.Test.YbulkdxzcFmtSmall
namespace Go.Proofs.YbulkdxzcFmt
open Go.RowKit
set_option linter.unusedSimpArgs false
set_option linter.unusedVariables false

/-- A parser's eight cells. -/
def parc (nm : ByteArray) (T n cap i : Nat) (dp bl : Int) (b1 b2 b3 : Bool) : Array Value :=
  #[.string nm, .slice (some ⟨T, 0, none⟩) n cap, .int .i64 i, .int .i64 dp, .int .i64 bl, .bool b1, .bool b2, .bool b3]
/-- Token i of the row at block T. -/
def TokAt (w : World) (T i : Nat) (k : Int) (t f : ByteArray) (l c : Int) : Prop :=
  w.cell? ⟨T, i * 5, none⟩ = some (.int .i64 k) ∧ w.cell? ⟨T, i * 5 + 1, none⟩ = some (.string t) ∧ w.cell? ⟨T, i * 5 + 2, none⟩ = some (.string f) ∧ w.cell? ⟨T, i * 5 + 3, none⟩ = some (.int .i64 l) ∧ w.cell? ⟨T, i * 5 + 4, none⟩ = some (.int .i64 c)
theorem cell_of {w : World} {b i : Nat} {c : Array Value} {t : TypeId} {v : Value} (hb : w.heap[b]? = some (.cells c t (0, 0))) (hc : c[i]? = some v) : w.cell? ⟨b, i, .none⟩ = some v := by
  simp [World.cell?, hb, hc]
theorem lt_of_cell {w : World} {a : Addr} {v : Value} (h : w.cell? a = some v) : a.block < w.heap.size := by
  rcases Nat.lt_or_ge a.block w.heap.size with h' | h'
  · exact h'
  · simp [World.cell?, Array.getElem?_eq_none h'] at h
theorem TokAt.keep {w w' : World} {B T i : Nat} {k : Int} {t f : ByteArray} {l c : Int} (h : TokAt w T i k t f l c) (hb : Below B w w') (hT : T < B) : TokAt w' T i k t f l c :=
  ⟨(hb.cell (p := ⟨T, _, none⟩) hT).trans h.1, (hb.cell (p := ⟨T, _, none⟩) hT).trans h.2.1, (hb.cell (p := ⟨T, _, none⟩) hT).trans h.2.2.1, (hb.cell (p := ⟨T, _, none⟩) hT).trans h.2.2.2.1, (hb.cell (p := ⟨T, _, none⟩) hT).trans h.2.2.2.2⟩

set_option maxRecDepth 100000 in
set_option maxHeartbeats 2000000 in
theorem tok (Pb T n cap i : Nat) (nm : ByteArray) (dp bl : Int) (b1 b2 b3 : Bool) (k : Int) (t f : ByteArray) (l c : Int) (w : World) (hi : i < n) (hn : n ≤ 1048577)
    (hP : w.heap[Pb]? = some (.cells (parc nm T n cap i dp bl b1 b2 b3) 35 (0, 0))) (hT : TokAt w T i k t f l c) :
    Calls Ybaf.prog 8 #[.pointer (some ⟨Pb, 0, none⟩)] w fun e w' => e = .returned (.agg (tokc k t f l c)) ∧ Below w.heap.size w w' := by
  have hPs : Pb < w.heap.size := (Array.getElem?_eq_some_iff.1 hP).1
  have hTs : T < w.heap.size := lt_of_cell hT.1
  have d1 : w.cell? ⟨Pb, 1, none⟩ = some (.slice (some ⟨T, 0, none⟩) n cap) := cell_of hP rfl
  have d2 : w.cell? ⟨Pb, 2, none⟩ = some (.int .i64 i) := cell_of hP rfl
  have hb := (((Below.refl w.heap.size w).alloc (Nat.le_refl _) (.cells #[.int .i64 0, .string ⟨#[]⟩, .string ⟨#[]⟩, .int .i64 0, .int .i64 0] 31)).drew)
  have HT : Hid (TokAt w T i k t f l c) := hT
  have H1 : Hid (w.cell? ⟨Pb, 1, none⟩ = some (.slice (some ⟨T, 0, none⟩) n cap)) := d1
  have H2 : Hid (w.cell? ⟨Pb, 2, none⟩ = some (.int .i64 i)) := d2
  have HBl : Hid (Below w.heap.size w _) := hb
  have hin : (i : Int) < (n : Int) := by omega
  clear hP hT d1 d2 hb
  go_enter Ybaf.func8, Ybaf.ntmps8
  go_upto_region 1 with fail
  refine wp_tail 10 (by kernel_rfl) (by kernel_rfl) fun W hW => ?_
  have hb : Below w.heap.size w W := by rw [hW]; exact HBl.out
  have d1 : W.cell? ⟨Pb, 1, none⟩ = some (.slice (some ⟨T, 0, none⟩) n cap) := (hb.cell (p := ⟨Pb, 1, none⟩) hPs).trans H1.out
  have d2 : W.cell? ⟨Pb, 2, none⟩ = some (.int .i64 i) := (hb.cell (p := ⟨Pb, 2, none⟩) hPs).trans H2.out
  obtain ⟨e0, e1, e2, e3, e4⟩ := HT.out.keep hb hTs
  have HW : Hid (W = _) := hW
  clear hW hb
  simp only [List.take_succ_cons, List.take_zero, List.drop_succ_cons, List.drop_zero]
  repeat still_step
  refine wpStill_nil ?_
  clear d1 d2 e0 e1 e2 e3 e4 HBl HT H1 H2
  obtain rfl := HW.out
  clear HW
  go_wp2
  refine bodyPost_ret (results_cell_row (p := 2) (ty := 31) (by kernel_rfl) _ _ w.heap.size 31 (tokc k t f l c) (0, 0) _ rfl (heap_alloc_new w _) Ybaf.underlying31 rfl (by kernel_rfl)) rfl ?_
  exact ⟨rfl, ((Below.refl _ w).alloc (Nat.le_refl _) _).drew⟩

/-- Behind advance: the parser's row; all else as it was. -/
structure Adv (Pb : Nat) (rc : Array Value) (w w' : World) : Prop where
  par : w'.heap[Pb]? = some (.cells rc 35 (0, 0))
  other : ∀ j, j ≠ Pb → w'.heap[j]? = w.heap[j]?
  below : ∀ B, B ≤ Pb → Below B w w'
  size : w'.heap.size = w.heap.size

theorem adv_of {Pb T n cap i : Nat} {nm : ByteArray} {dp bl : Int} {b1 b2 b3 : Bool} {w : World} (hP : w.heap[Pb]? = some (.cells (parc nm T n cap i dp bl b1 b2 b3) 35 (0, 0))) (q : Nat) :
    Adv Pb (parc nm T n cap (i + 1) dp bl b1 b2 b3) w ((w.drewN q).setCell ⟨Pb, 2, none⟩ (.int .i64 ((i : Int) + 1))) := by
  refine ⟨?_, fun j hj => Below.heap_setCell _ _ _ _ hj, fun B hB => (below_drewN (Below.refl _ _) q).setCell (p := ⟨Pb, 2, none⟩) hB _, ?_⟩
  · have := heap_setCell_same (w.drewN q) Pb 2 _ 35 (.int .i64 ((i : Int) + 1)) hP
    exact this
  · rw [World.size_setCell]; rfl
theorem adv_same {Pb : Nat} {rc : Array Value} {w : World} (hP : w.heap[Pb]? = some (.cells rc 35 (0, 0))) (q : Nat) : Adv Pb rc w (w.drewN q) :=
  ⟨hP, fun _ _ => rfl, fun B _ => below_drewN (Below.refl _ _) q, rfl⟩

def nextI (i n : Nat) : Nat := if i + 1 < n then i + 1 else i

set_option maxRecDepth 100000 in
set_option maxHeartbeats 2000000 in
theorem advance (Pb T n cap i : Nat) (nm : ByteArray) (dp bl : Int) (b1 b2 b3 : Bool) (w : World) (hi : i < n) (hn : n ≤ 1048577)
    (hP : w.heap[Pb]? = some (.cells (parc nm T n cap i dp bl b1 b2 b3) 35 (0, 0))) :
    Calls Ybaf.prog 11 #[.pointer (some ⟨Pb, 0, none⟩)] w fun e w' => (∃ v, e = .returned v) ∧ Adv Pb (parc nm T n cap (nextI i n) dp bl b1 b2 b3) w w' := by
  have hPs : Pb < w.heap.size := (Array.getElem?_eq_some_iff.1 hP).1
  have d1 : w.cell? ⟨Pb, 1, none⟩ = some (.slice (some ⟨T, 0, none⟩) n cap) := cell_of hP rfl
  have d2 : w.cell? ⟨Pb, 2, none⟩ = some (.int .i64 i) := cell_of hP rfl
  have f2 : w.frozen? ⟨Pb, 2, none⟩ = false := by simp [World.frozen?, hP]
  have HP : Hid (w.heap[Pb]? = some (.cells (parc nm T n cap i dp bl b1 b2 b3) 35 (0, 0))) := hP
  clear hP
  go_enter Ybaf.func11, Ybaf.ntmps11
  by_cases h : i + 1 < n
  · have h' : (i : Int) < (n : Int) - 1 := by omega
    go_wp2_with fail
    go_quiet (fail)
    go_wp2
    go_end0
    exact ⟨⟨_, rfl⟩, by rw [nextI, if_pos h]; exact adv_of HP.out nq⟩
  · have h' : ¬ (i : Int) < (n : Int) - 1 := by omega
    go_wp2_with fail
    go_quiet (fail)
    go_wp2
    go_end0
    exact ⟨⟨_, rfl⟩, by rw [nextI, if_neg h]; exact adv_same HP.out nq⟩
end Go.Proofs.YbulkdxzcFmt
