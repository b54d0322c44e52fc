/- knowsOthers, cover, arc of a node that knows no other: by contract. -/
import Derived.Test.YbulkdxyaFmtFlight
import Derived.RangeFuncNested
import Derived.RangeFuncBound
import Derived.RangeFuncCalls
import Derived.RangeFuncLeaves
import Derived.Shelf.Abstract
import Derived.Shelf.RegionOpen
import Derived.OwnWalkIn
import Derived.TacticsInMore
import Derived.LoopNIn
import Derived.LoopIn
namespace Go.Proofs.YbulkdxyaFmt
open Go.RowKit Go.Shelf
set_option linter.unusedSimpArgs false
set_option linter.unusedVariables false
attribute [local go_sem] Oper.semAt_some

theorem putObj_below {B : Nat} {w W : World} {l : Nat} {o : Obj} (o' : Obj) (h : Below B w W) (hl : B ≤ l) (ho : W.heap[l]? = some o) : Below B w (W.putObj l o') :=
  h.trans ⟨rfl, rfl, rfl, by simp, fun k hk => World.putObj_heap_other (by omega)⟩

/-- A range over a method value that yields nothing. -/
theorem wpIn_range_none {n : Nat} {P : Program} {g : Operand} {ps : Array Tmp} {assign body : Code} {Q : Exit → Act → World → Prop} {a : Act} {w : World}
    {gf : Nat} {fs : Array Value} (hg : a.eval g = .func (.func gf) fs #[]) (eg : ∀ args w, (callFunc gf args).run P w = .ok (.enter gf args) w)
    (hit : ∀ (l : Nat) (W : World), Below w.heap.size w W → CallsIn Fence.wide (n - 1) P gf (fs ++ #[.func (.yield l) #[] #[]]) W fun e W' => (∃ x, e = .returned x) ∧ Below W.heap.size W W')
    (hdone : ∀ (D : Nat) (W : World), w.heap.size ≤ D → Below w.heap.size w W → W.heap[D]? = some (.deferred (some [])) → Q .normal { a with defers := { target := .collected D, args := #[] } :: a.defers } W) :
    (Code.rangeFunc g ps assign body).wpIn Fence.wide n P Q a w := by
  refine wpIn_rangeFunc fun fn hfn => ?_
  let rec_ : LoopState → Loop := fun st => { state := st, pending := none, fn, tmps := a.tmps, params := ps, assign, body, defers := w.heap.size }
  have hnew : ((w.alloc (.deferred (some []))).alloc (.loop (rec_ .ready))).heap[w.heap.size + 1]? = some (.loop (rec_ .ready)) := by
    have := World.alloc_heap_new (w.alloc (.deferred (some []))) (.loop (rec_ .ready)); rwa [World.size_alloc] at this
  have hdef : ((w.alloc (.deferred (some []))).alloc (.loop (rec_ .ready))).heap[w.heap.size]? = some (.deferred (some [])) :=
    (Below.heap_alloc _ _ _ (by simp)).trans (World.alloc_heap_new w _)
  have hb0 : Below w.heap.size w ((w.alloc (.deferred (some []))).alloc (.loop (rec_ .ready))) := ((Below.refl _ _).alloc (Nat.le_refl _) _).alloc (by simp) _
  refine ⟨w.heap.size + 1, [{ target := .collected w.heap.size, args := #[] }], _, { target := .fn (.func gf) #[], args := fs ++ #[.func (.yield (w.heap.size + 1)) #[] #[]] }, (w.alloc (.deferred (some []))).alloc (.loop (rec_ .ready)), gf, fs ++ #[.func (.yield (w.heap.size + 1)) #[] #[]], (w.alloc (.deferred (some []))).alloc (.loop (rec_ .ready)),
    run_enterLoop_outer _ _ _ _ _, ?_, fun f' hf' => trivial, ?_, (fun h => by cases h), ?_⟩
  · simp only [resolve, hg]
    simp [go_sem]
    try rfl
  · simp [invoke, go_sem, eg]
  · refine (hit (w.heap.size + 1) _ hb0).mono ?_
    rintro e W2 ⟨⟨x, rfl⟩, hb2⟩
    have hl2 : W2.heap[w.heap.size + 1]? = some (.loop (rec_ .ready)) := (hb2.block _ (by simp)).trans hnew
    have hd2 : W2.heap[w.heap.size]? = some (.deferred (some [])) := (hb2.block _ (by simp; omega)).trans hdef
    exact ⟨none, _, run_endLoop (r := rec_ .ready) hl2 (by simp [rec_]), hdone _ _ (Nat.le_refl _) (putObj_below _ (hb0.trans (hb2.mono (by simp; omega))) (by omega) hl2) ((World.putObj_heap_other (by omega)).trans hd2)⟩

theorem results_cell_bool {fn : Func} {p : Tmp} (h : fn.results = #[.cell p 4]) (tmps : Array Value) (w : World) (g : Nat) (b : Bool) (hp : tmps.getD p undef = .pointer (some ⟨g, 0, none⟩)) (hg : w.heap[g]? = some (.cells #[.bool b] 4 (0, 0))) :
    (results fn tmps).run Ybaf.prog w = .ok (.bool b) w := by
  have hc : w.cell? ⟨g, 0, none⟩ = some (.bool b) := cell_of hg rfl
  have ha := Ybaf.isAgg4
  have hp' : tmps[p]?.getD undef = .pointer (some ⟨g, 0, none⟩) := by simpa using hp
  simp [results, h, hp', asAddr, loadVar, ha, hc, go_sem]
set_option maxRecDepth 100000 in
set_option maxHeartbeats 2000000 in
theorem knows_in (n : Nat) (hn : 3 ≤ n) (N : Nat) (R : Array Value) (id : Int) (ht : TypeId) (hv : Value) (m1 m3 : Nat) (w : World) (hN : NX w N R id ht hv m1 m3) (hm : w.heap[m1]? = some (.map #[] 0)) :
    CallsIn Fence.wide n Ybaf.prog 72 #[.pointer (some ⟨N, 0, none⟩)] w fun e w' => e = .returned (.bool false) ∧ Below w.heap.size w w' := by
  have h1 : 1 ≤ n := by omega
  have HX : Hid (NX w N R id ht hv m1 m3) := hN
  have HM : Hid (w.heap[m1]? = some (.map #[] 0)) := hm
  clear hN hm
  refine callsIn_of_wp_marks Ybaf.func72 rfl trivial ?_ rfl
  simp only [Ybaf.ntmps72, List.size_toArray, List.length_cons, List.length_nil, Nat.reduceAdd, Nat.reduceSub, Array.replicate_succ, Array.replicate_zero, List.push_toArray, List.append_toArray, List.nil_append, List.cons_append]
  gi_wp2_with fail
  obtain ⟨w1, HW1⟩ : ∃ W : World, Hid (W = (w.alloc (.cells #[.pointer (some ⟨N, 0, none⟩)] 52)).alloc (.cells #[.bool false] 4)) := ⟨_, rfl⟩
  rw [← HW1.out]
  have hb1 : Below w.heap.size w w1 := by rw [HW1.out]; exact ((Below.refl _ _).alloc (Nat.le_refl _) _).alloc (by simp) _
  have hX1 := HX.out.keep hb1
  have hlt : m1 < w.heap.size := (Array.getElem?_eq_some_iff.1 HM.out).1
  have hM1 : w1.heap[m1]? = some (.map #[] 0) := (hb1.block m1 hlt).trans HM.out
  refine wpIn_range_none (gf := 74) (fs := #[.pointer (some ⟨N, 0, none⟩)]) rfl (enters_of Ybaf.func74 (by kernel_rfl) rfl) ?hit ?done
  case hit =>
    intro l W hb
    have hX2 := hX1.keep hb
    have hM2 : W.heap[m1]? = some (.map #[] 0) := (hb.block m1 (Array.getElem?_eq_some_iff.1 hM1).1).trans hM1
    exact (callsIn_wide.2 (inFlight_calls N m1 _ W (hX2.cell hX2.nf.probing) hM2)).mono fun e W' h => ⟨⟨_, h.1⟩, h.2⟩
  case done =>
    intro D W hD hb hK
    have hs1 : w1.heap.size = w.heap.size + 2 := by rw [HW1.out]; simp
    have hX2 := hX1.keep hb
    have hA : w1.heap[w.heap.size]? = some (.cells #[.pointer (some ⟨N, 0, none⟩)] 52 (0, 0)) := by rw [HW1.out, Below.heap_alloc _ _ _ (by simp)]; exact new_at rfl
    have hB : w1.heap[w.heap.size + 1]? = some (.cells #[.bool false] 4 (0, 0)) := by rw [HW1.out]; exact new_at (by simp)
    have hA2 := (hb.block _ (by omega)).trans hA
    have hB2 := (hb.block _ (by omega)).trans hB
    have n1 : W.cell? ⟨w.heap.size, 0, none⟩ = some (.pointer (some ⟨N, 0, none⟩)) := cell_of hA2 rfl
    have HC : Hid (CallsIn Fence.wide (n - 1) Ybaf.prog 80 _ _ _) := callsIn_wide.2 (fingers_calls N w.heap.size R id ht hv m1 m3 W hX2)
    have HY : Hid (W.heap[w.heap.size + 1]? = some (.cells #[.bool false] 4 (0, 0)) ∧ W.heap[D]? = some (.deferred (some [])) ∧ w1.heap.size ≤ D ∧ Below w1.heap.size w1 W ∧ Below w.heap.size w w1 ∧ w1.heap.size = w.heap.size + 2) := ⟨hB2, hK, hD, hb, hb1, hs1⟩
    have HF : Hid (∀ w2, Below W.heap.size W w2 → w2.cell? ⟨w.heap.size + 1, 0, none⟩ = some (.bool false) ∧ w2.frozen? ⟨w.heap.size + 1, 0, none⟩ = false) := fun w2 h2 => by
      have := (h2.block _ (Array.getElem?_eq_some_iff.1 HY.out.1).1).trans HY.out.1
      exact ⟨cell_of this rfl, frozen_of this⟩
    clear hD hb hK hs1 hA hB hA2 hB2 hX2 hX1 hb1 hM1 HW1
    gi_wp2_with (first
      | (refine ⟨trivial, ?_⟩; gi_at_call 80; refine HC.out.mono ?_; rintro e' w2 ⟨rfl, hb2⟩; obtain ⟨q1, q2⟩ := HF.out w2 hb2; have HB2 : Hid (Below W.heap.size W w2) := hb2; clear hb2)
      | (gi_at_call 80; refine HC.out.mono ?_; rintro e' w2 ⟨rfl, hb2⟩; obtain ⟨q1, q2⟩ := HF.out w2 hb2; have HB2 : Hid (Below W.heap.size W w2) := hb2; clear hb2))
    obtain ⟨y1, y2, y3, y4, y5, y6⟩ := HY.out
    have hDl : D < W.heap.size := (Array.getElem?_eq_some_iff.1 y2).1
    have hSl : w.heap.size + 1 < W.heap.size := (Array.getElem?_eq_some_iff.1 y1).1
    have hK' : (w2.setCell ⟨w.heap.size + 1, 0, none⟩ (.bool false)).heap[D]? = some (.deferred (some [])) := (Below.heap_setCell _ _ _ _ (show D ≠ w.heap.size + 1 by omega)).trans ((HB2.out.block D hDl).trans y2)
    have hB' : (w2.setCell ⟨w.heap.size + 1, 0, none⟩ (.bool false)).heap[w.heap.size + 1]? = some (.cells #[.bool false] 4 (0, 0)) := heap_setCell_same w2 _ 0 _ 4 (.bool false) ((HB2.out.block _ hSl).trans y1)
    refine ⟨by simp, .inl ⟨_, _, rfl, run_takeDeferred hK', ?_⟩⟩
    refine ⟨_, results_cell_bool (p := 2) (by kernel_rfl) _ _ (w.heap.size + 1) false rfl ((World.putObj_heap_other (by omega)).trans hB'), rfl, ?_⟩
    refine putObj_below _ (Below.setCell (p := ⟨w.heap.size + 1, 0, none⟩) ?_ (by show w.heap.size ≤ w.heap.size + 1; omega) _) (by omega) hK'
    exact (y5.trans (y4.mono (by omega))).trans (HB2.out.mono (by omega))

theorem knows_calls (N : Nat) (R : Array Value) (id : Int) (ht : TypeId) (hv : Value) (m1 m3 : Nat) (w : World) (hN : NX w N R id ht hv m1 m3) (hm : w.heap[m1]? = some (.map #[] 0)) :
    Calls Ybaf.prog 72 #[.pointer (some ⟨N, 0, none⟩)] w fun e w' => e = .returned (.bool false) ∧ Below w.heap.size w w' := callsIn_wide.1 (knows_in 4 (by omega) N R id ht hv m1 m3 w hN hm)

theorem info74 : (Ybaf.prog.info? 74).map (·.size) = some 3 := by kernel_rfl
theorem info123 : (Ybaf.prog.info? 123).map (·.size) = some 5 := by kernel_rfl
set_option maxRecDepth 100000 in
set_option maxHeartbeats 2000000 in
theorem cover_calls (N : Nat) (R : Array Value) (id : Int) (ht : TypeId) (hv : Value) (m1 m3 : Nat) (w : World) (hN : NX w N R id ht hv m1 m3) (hm : w.heap[m1]? = some (.map #[] 0)) :
    Calls Ybaf.prog 64 #[.pointer (some ⟨N, 0, none⟩)] w fun e w' => e = .returned (.agg #[.int .i64 0, .int .i64 0, .bool true]) ∧ Below w.heap.size w w' := by
  obtain ⟨w1, HW1⟩ : ∃ W : World, Hid (W = (w.alloc (.cells #[.pointer (some ⟨N, 0, none⟩)] 52)).alloc (.cells #[.int .i64 0, .int .i64 0, .bool false] 74)) := ⟨_, rfl⟩
  have hb1 : Below w.heap.size w w1 := by rw [HW1.out]; exact ((Below.refl _ _).alloc (Nat.le_refl _) _).alloc (by simp) _
  have hX1 := hN.keep hb1
  have hM1 : w1.heap[m1]? = some (.map #[] 0) := (hb1.block m1 (Array.getElem?_eq_some_iff.1 hm).1).trans hm
  have hs1 : w1.heap.size = w.heap.size + 2 := by rw [HW1.out]; simp
  have hA : w1.heap[w.heap.size]? = some (.cells #[.pointer (some ⟨N, 0, none⟩)] 52 (0, 0)) := by rw [HW1.out, Below.heap_alloc _ _ _ (by simp)]; exact new_at rfl
  have hB : w1.heap[w.heap.size + 1]? = some (.cells #[.int .i64 0, .int .i64 0, .bool false] 74 (0, 0)) := by rw [HW1.out]; exact new_at (by simp)
  have n1 : w1.cell? ⟨w.heap.size, 0, none⟩ = some (.pointer (some ⟨N, 0, none⟩)) := cell_of hA rfl
  have c16 := hX1.cell hX1.nf.members
  have HC : Hid (Calls Ybaf.prog 72 _ _ _) := knows_calls N R id ht hv m1 m3 w1 hX1 hM1
  have HF : Hid (∀ w2, Below w1.heap.size w1 w2 → (w2.cell? ⟨w.heap.size + 1, 0, none⟩ = some (.int .i64 0) ∧ w2.cell? ⟨w.heap.size + 1, 1, none⟩ = some (.int .i64 0) ∧ w2.cell? ⟨w.heap.size + 1, 2, none⟩ = some (.bool false)) ∧ w2.frozen? ⟨w.heap.size + 1, 0, none⟩ = false ∧ w2.frozen? ⟨w.heap.size + 1, 1, none⟩ = false ∧ w2.frozen? ⟨w.heap.size + 1, 2, none⟩ = false ∧ w2.heap[w.heap.size + 1]? = some (.cells #[.int .i64 0, .int .i64 0, .bool false] 74 (0, 0))) := fun w2 h2 => by
    have := (h2.block _ (by omega)).trans hB
    exact ⟨⟨cell_of this rfl, cell_of this rfl, cell_of this rfl⟩, frozen_of this, frozen_of this, frozen_of this, this⟩
  have HB1 : Hid (Below w.heap.size w w1 ∧ w1.heap.size = w.heap.size + 2) := ⟨hb1, hs1⟩
  clear hb1 hX1 hM1 hs1 hA hB hN hm
  go_enter Ybaf.func64, Ybaf.ntmps64
  go_upto_region 1 with fail
  rw [← HW1.out]
  go_wp2_with (go_at_call 72; refine HC.out.mono ?_; rintro e' w2 ⟨rfl, hb2⟩; obtain ⟨⟨q1, q2, q3⟩, q4, q5, q6, q7⟩ := HF.out w2 hb2; have HB2 : Hid (Below w1.heap.size w1 w2 ∧ w2.heap[w.heap.size + 1]? = some (.cells #[.int .i64 0, .int .i64 0, .bool false] 74 (0, 0))) := ⟨hb2, q7⟩; clear hb2 q7)
  have hst := (((BStep.refl HB2.out.2).set 0 (.int .i64 0)).set 1 (.int .i64 0)).set 2 (.bool true)
  simp at hst
  refine bodyPost_ret (results_cell_row (p := 2) (ty := 74) (by kernel_rfl) _ _ (w.heap.size + 1) 74 #[.int .i64 0, .int .i64 0, .bool true] (0, 0) _ rfl hst.par Ybaf.underlying74 rfl info74) rfl ?_
  refine ⟨rfl, (HB1.out.1.trans (HB2.out.1.mono (by rw [HB1.out.2]; omega))).trans (hst.below _ (by omega))⟩

set_option maxRecDepth 100000 in
set_option maxHeartbeats 4000000 in
theorem arc_calls (N : Nat) (R : Array Value) (id : Int) (ht : TypeId) (hv : Value) (m1 m3 : Nat) (V : Value) (w : World) (hN : NX w N R id ht hv m1 m3) (hm : w.heap[m1]? = some (.map #[] 0)) (hV : R[21]? = some V) (hV1 : ∃ p l c, V = .slice p l c) :
    Calls Ybaf.prog 41 #[.pointer (some ⟨N, 0, none⟩)] w fun e w' => e = .returned (.agg #[.int .u64 id, V, .int .i64 0, .int .i64 0, .bool true]) ∧ Below w.heap.size w w' := by
  obtain ⟨pv, lv, cv, rfl⟩ := hV1
  obtain ⟨w1, HW1⟩ : ∃ W : World, Hid (W = w.alloc (.cells #[.int .u64 0, .slice none 0 0, .int .i64 0, .int .i64 0, .bool false] 123)) := ⟨_, rfl⟩
  have hb1 : Below w.heap.size w w1 := by rw [HW1.out]; exact (Below.refl _ _).alloc (Nat.le_refl _) _
  have hX1 := hN.keep hb1
  have hM1 : w1.heap[m1]? = some (.map #[] 0) := (hb1.block m1 (Array.getElem?_eq_some_iff.1 hm).1).trans hm
  have hs1 : w1.heap.size = w.heap.size + 1 := by rw [HW1.out]; simp
  have hB : w1.heap[w.heap.size]? = some (.cells #[.int .u64 0, .slice none 0 0, .int .i64 0, .int .i64 0, .bool false] 123 (0, 0)) := by rw [HW1.out]; exact new_at rfl
  have c0 := hX1.cell hX1.nf.id0
  have c21 := hX1.cell hV
  have HC : Hid (Calls Ybaf.prog 64 #[.pointer (some ⟨N, 0, none⟩)] w1.drew fun e w' => e = .returned (.agg #[.int .i64 0, .int .i64 0, .bool true]) ∧ Below w1.drew.heap.size w1.drew w') := cover_calls N R id ht hv m1 m3 w1.drew (hX1.keep (Below.refl _ _).drew) hM1
  have HF : Hid (∀ w2, Below w1.heap.size w1 w2 → w2.cell? ⟨N, 0, none⟩ = some (.int .u64 id) ∧ w2.cell? ⟨N, 21, none⟩ = some (.slice pv lv cv) ∧ (w2.cell? ⟨w.heap.size, 0, none⟩ = some (.int .u64 0) ∧ w2.cell? ⟨w.heap.size, 1, none⟩ = some (.slice none 0 0) ∧ w2.cell? ⟨w.heap.size, 2, none⟩ = some (.int .i64 0) ∧ w2.cell? ⟨w.heap.size, 3, none⟩ = some (.int .i64 0) ∧ w2.cell? ⟨w.heap.size, 4, none⟩ = some (.bool false)) ∧ w2.heap[w.heap.size]? = some (.cells #[.int .u64 0, .slice none 0 0, .int .i64 0, .int .i64 0, .bool false] 123 (0, 0))) := fun w2 h2 => by
    have := (h2.block _ (by omega)).trans hB
    have hX2 := hX1.keep h2
    exact ⟨hX2.cell hX2.nf.id0, hX2.cell hV, ⟨cell_of this rfl, cell_of this rfl, cell_of this rfl, cell_of this rfl, cell_of this rfl⟩, this⟩
  have HB1 : Hid (Below w.heap.size w w1 ∧ w1.heap.size = w.heap.size + 1) := ⟨hb1, hs1⟩
  clear hb1 hX1 hM1 hs1 hB hN hm
  go_enter Ybaf.func41, Ybaf.ntmps41
  go_upto_region 1 with fail
  rw [← HW1.out]
  go_region_with (go_at_call 64; refine HC.out.mono ?_; rintro e' w2 ⟨rfl, hb2⟩; have hb2' : Below w1.heap.size w1 w2 := ((Below.refl _ _).drew).trans hb2; obtain ⟨p0, p21, ⟨q1, q2, q3, q4, q5⟩, q7⟩ := HF.out w2 hb2'; have f0 : w2.frozen? ⟨w.heap.size, 0, none⟩ = false := frozen_of q7; have f1 : w2.frozen? ⟨w.heap.size, 1, none⟩ = false := frozen_of q7; have f2 : w2.frozen? ⟨w.heap.size, 2, none⟩ = false := frozen_of q7; have f3 : w2.frozen? ⟨w.heap.size, 3, none⟩ = false := frozen_of q7; have f4 : w2.frozen? ⟨w.heap.size, 4, none⟩ = false := frozen_of q7; have HB2 : Hid (Below w1.heap.size w1 w2 ∧ w2.heap[w.heap.size]? = some (.cells #[.int .u64 0, .slice none 0 0, .int .i64 0, .int .i64 0, .bool false] 123 (0, 0))) := ⟨hb2', q7⟩; clear hb2 hb2' q7)
  all_goals go_wp2_with fail
  all_goals
  have hst := (((((BStep.refl HB2.out.2).set 0 (.int .u64 id)).set 1 (.slice pv lv cv)).set 2 (.int .i64 0)).set 3 (.int .i64 0)).set 4 (.bool true)
  simp at hst
  refine bodyPost_ret (results_cell_row (p := 2) (ty := 123) (by kernel_rfl) _ _ w.heap.size 123 #[.int .u64 id, .slice pv lv cv, .int .i64 0, .int .i64 0, .bool true] (0, 0) _ rfl hst.par Ybaf.underlying123 rfl info123) rfl ?_
  exact ⟨rfl, (HB1.out.1.trans (HB2.out.1.mono (by rw [HB1.out.2]; omega))).trans (hst.below _ (Nat.le_refl _))⟩
end Go.Proofs.YbulkdxyaFmt
