/- The model: what its loop keeps. -/
import Derived.Test.YbulkdycwFmtMNode
import Derived.Laws.ResultCell
namespace Go.Proofs.YbulkdycwFmt
open Go.RowKit
open Go.Extern.Stop Go.Stop Go.Extern
set_option linter.unusedSimpArgs false
set_option linter.unusedVariables false

theorem results_cell_row_tmp {P : Program} {fn : Func} {p u : Tmp} {ty : TypeId} (h : fn.results = #[.cell p ty, .tmp u]) (tmps : Array Value) (w : World) (g : Nat) (t : TypeId) (cs : Array Value) (fr : Nat × Nat) (d : TypeDesc) (v : Value)
    (hp : tmps.getD p undef = .pointer (some ⟨g, 0, none⟩)) (hv : tmps.getD u undef = v) (hg : w.heap[g]? = some (.cells cs t fr))
    (hu : P.underlying ty = some d) (hd : (match d with | .struct _ | .array _ _ => true | _ => false) = true) (hi : (P.info? ty).map (·.size) = some cs.size) :
    (results fn tmps).run P w = .ok (.tuple #[.agg cs, v]) w := by
  rw [results_cell_tmp h, hp, hv]
  simp [asAddr, run_loadVar_row w g t ty cs fr d hg hu hd hi]

theorem NodeAt.move {w : World} {B0 : Nat} {cur cur' : Array Value} {o o' T : Nat} {dv : Nat → Int} {p : Nat} (h : NodeAt w B0 cur o T dv p) (e : ∀ i, i < 19 → cur'[o' + i]? = cur[o + i]?) : NodeAt w B0 cur' o' T dv p := by
  obtain ⟨U, h1, h2⟩ := h.und
  obtain ⟨a, c, h3, h4, h5⟩ := h.data
  exact ⟨fun i hi => (e i (by omega)).trans (h.fields i hi), ⟨U, (e 16 (by omega)).trans h1, h2⟩, (e 17 (by omega)).trans h.id, a, c, (e 18 (by omega)).trans h3, h4, h5⟩

theorem node_new {w : World} {B T : Nat} {dv : Nat → Int} {p : Nat} {a2 : Addr} {c2 : Nat} {U' : Value} (hown : w.ownsRow B 23 1 U' (und T dv (p + ssum T 16) 10).length ((und T dv (p + ssum T 16) 10).map (Value.int .u32)))
    (hdat : tbit T 22 = true → BsAt w a2 (need T dv p - 4 * units T 24 - 4) dv (p + 4 * units T 24 + 4)) (ha2 : a2.block < B) :
    NodeAt w B (nrow z19 0 T dv p (p + 4 * units T 24) (.slice (some a2) (need T dv p - 4 * units T 24 - 4) c2) U') 0 T dv p := by
  have ho : 0 + 19 ≤ (z19 : Array Value).size := Nat.le_refl _
  have hu' := nrow_u z19 0 T dv p (p + 4 * units T 24) (.slice (some a2) (need T dv p - 4 * units T 24 - 4) c2) U' ho
  obtain ⟨i1, i2⟩ := nrow_id z19 0 T dv p (p + 4 * units T 24) (.slice (some a2) (need T dv p - 4 * units T 24 - 4) c2) U' ho
  refine ⟨fun i hi => nrow_field _ _ _ _ _ _ _ _ ho i hi, ⟨U', hu', hown⟩, i1, ?_⟩
  by_cases hb : tbit T 22 = true
  · rw [if_pos hb] at i2
    exact ⟨some a2, c2, i2, fun _ => ⟨a2, rfl, hdat hb⟩, fun ad e => by cases e; exact ha2⟩
  · rw [if_neg hb] at i2
    have e0 : need T dv p - 4 * units T 24 - 4 = 0 := by unfold need; rw [if_neg hb]; omega
    exact ⟨none, 0, by rw [i2, e0], fun hpos => absurd hpos (by omega), fun ad e => by cases e⟩

abbrev z6 : Array Value := #[.int .u16 0, .int .u8 0, .int .u8 0, .int .u8 0, .int .u32 0, .slice none 0 0]
/-- The model's nodes. -/
structure MN (w : World) (B : Nat) (V : Value) (xs : List Value) (T : Nat) (dv : Nat → Int) (ps : List Nat) : Prop where
  own : w.ownsRow B 34 19 V ps.length xs
  nodes : ∀ j p, ps[j]? = some p → NodeAt w B xs.toArray (j * 19) T dv p
theorem MN.none (w : World) (B T : Nat) (dv : Nat → Int) : MN w B (.slice none 0 0) [] T dv [] := ⟨World.ownsRow_nil _ _ _ _, fun j p h => by simp at h⟩

/-- The loop's state: the nodes at ds are done, pos is next. -/
structure MS (w wr : World) (B : Nat) (dv : Nat → Int) (L p0 pos : Nat) (ds : List Nat) (V : Value) (xs : List Value) : Prop where
  res : wr.heap[B]? = some (.cells z6 39 (0, 0))
  exp : wr.heap[B + 1]? = some (.cells (hdr dv V) 39 (0, 0))
  own : wr.ownsRow (B + 2) 34 19 V ds.length xs
  nodes : ∀ j p, ds[j]? = some p → NodeAt wr B xs.toArray (j * 19) (hTy dv) dv p
  far : ∀ j U g, j < ds.length → xs[j * 19 + 16]? = some U → U.ownBlock = some g → B + 2 ≤ g ∧ g < wr.heap.size ∧ V.ownBlock ≠ some g
  below : Below B w wr
  scan : ∀ ps b, Scan L (hTy dv) dv pos ps b → Scan L (hTy dv) dv p0 (ds ++ ps) b
  few : ds.length * 4 + p0 ≤ pos
  size : B + 2 ≤ wr.heap.size

theorem MS.keep {w wr W : World} {B : Nat} {dv : Nat → Int} {L p0 pos : Nat} {ds : List Nat} {V : Value} {xs : List Value} (h : MS w wr B dv L p0 pos ds V xs) (hW : Below wr.heap.size wr W) : MS w W B dv L p0 pos ds V xs := by
  have hs := h.size
  refine ⟨(hW.block B (by omega)).trans h.res, (hW.block (B + 1) (by omega)).trans h.exp, own_below h.own hW (Nat.le_refl _), fun j p hp => ?_, fun j U g hj hU hg => ?_, h.below.trans (hW.mono (by omega)), h.scan, h.few, Nat.le_trans hs hW.size⟩
  · refine (h.nodes j p hp).keep (hW.mono (by omega)) (fun U g hU hg => ?_)
    have := h.far j U g (List.getElem?_eq_some_iff.1 hp).1 (by simpa using hU) hg
    exact hW.block g this.2.1
  · have := h.far j U g hj hU hg
    exact ⟨this.1, Nat.lt_of_lt_of_le this.2.1 hW.size, this.2.2⟩

/-- The cell of the nodes, behind the append. -/
theorem MS.five {w wr W6 W7 w8 : World} {B : Nat} {dv : Nat → Int} {L p0 pos : Nat} {ds : List Nat} {V : Value} {xs : List Value} (h : MS w wr B dv L p0 pos ds V xs) (hW6 : Below wr.heap.size wr W6) (hW7 : Below W6.heap.size W6 W7) (hg : W7.grownBy w8 V.ownBlock) :
    w8.cell? ⟨B + 1, 5, none⟩ = some V ∧ w8.frozen? ⟨B + 1, 5, none⟩ = false ∧ w8.heap[B + 1]? = some (.cells (hdr dv V) 39 (0, 0)) := by
  have hs := h.size
  have h6 := hW6.size
  have h7 := hW7.size
  have e : w8.heap[B + 1]? = some (.cells (hdr dv V) 39 (0, 0)) := by
    refine (hg.block (B + 1) (by omega) (fun e => ?_)).trans ((hW7.block _ (by omega)).trans ((hW6.block _ (by omega)).trans h.exp))
    have := (h.own.lt _ e.symm).1
    omega
  exact ⟨cell_of e rfl, frozen_of e, e⟩

theorem MS.push {w wr W6 W7 w8 : World} {B : Nat} {dv : Nat → Int} {L p0 pos : Nat} {ds : List Nat} {V : Value} {xs : List Value} (h : MS w wr B dv L p0 pos ds V xs) (hpos : pos < L) (hbad : ¬ bad L (hTy dv) dv pos) (hW6 : Below wr.heap.size wr W6) (hW7 : Below W6.heap.size W6 W7) (hs7 : W6.heap.size < W7.heap.size) (hg : W7.grownBy w8 V.ownBlock)
    {U' : Value} {a2 : Addr} {c2 g cap : Nat} {RF : Array Value} (hRF : RF = nrow z19 0 (hTy dv) dv pos (pos + 4 * units (hTy dv) 24) (.slice (some a2) (need (hTy dv) dv pos - 4 * units (hTy dv) 24 - 4) c2) U')
    (hU : W6.ownsRow wr.heap.size 23 1 U' (und (hTy dv) dv (pos + ssum (hTy dv) 16) 10).length ((und (hTy dv) dv (pos + ssum (hTy dv) 16) 10).map (Value.int .u32)))
    (hdat : tbit (hTy dv) 22 = true → BsAt wr a2 (need (hTy dv) dv pos - 4 * units (hTy dv) 24 - 4) dv (pos + 4 * units (hTy dv) 24 + 4)) (ha2 : a2.block < B)
    (hown : w8.ownsRow (B + 2) 34 19 (.slice (some ⟨g, 0, none⟩) (ds.length + 1) cap) (ds.length + 1) (xs ++ RF.toList)) (hlie : V.ownBlock = some g ∨ g = W7.heap.size) :
    MS w (w8.setCell ⟨B + 1, 5, none⟩ (.slice (some ⟨g, 0, none⟩) (ds.length + 1) cap)) B dv L p0 (pos + need (hTy dv) dv pos) (ds ++ [pos]) (.slice (some ⟨g, 0, none⟩) (ds.length + 1) cap) (xs ++ RF.toList) := by
  have hs := h.size
  have h6 := hW6.size
  have h7 := hW7.size
  have h8 := hg.size
  obtain ⟨_, _, e5⟩ := h.five hW6 hW7 hg
  have hxl : xs.length = ds.length * 19 := h.own.1
  have hRs : RF.size = 19 := by rw [hRF, nrow_size]; rfl
  have hVlt : ∀ k, V.ownBlock = some k → B + 2 ≤ k ∧ k < wr.heap.size := fun k hk => h.own.lt k hk
  obtain ⟨w9, hw9⟩ : ∃ w9, w9 = w8.setCell ⟨B + 1, 5, none⟩ (.slice (some ⟨g, 0, none⟩) (ds.length + 1) cap) := ⟨_, rfl⟩
  rw [← hw9]
  have blk : ∀ j, j < W6.heap.size → j ≠ B + 1 → V.ownBlock ≠ some j → w9.heap[j]? = W6.heap[j]? := fun j hj hne hv => by
    rw [hw9, Below.heap_setCell _ _ _ _ (show j ≠ B + 1 from hne)]
    exact (hg.block j (by omega) (fun e => hv e.symm)).trans (hW7.block j hj)
  have hb9 : Below B W6 w9 := by
    rw [hw9]
    have hb : Below B W7 w8 := ⟨hg.os, hg.tape, hg.output, hg.size, fun k hk => hg.block k (by omega) (fun e => by have := (hVlt k e.symm).1; omega)⟩
    exact ((hW7.mono (by omega)).trans hb).setCell (p := ⟨B + 1, 5, none⟩) (by show B ≤ B + 1; omega) _
  have hbw : Below B wr w9 := (hW6.mono (by omega)).trans hb9
  have hU9 : w9.ownsRow B 23 1 U' (und (hTy dv) dv (pos + ssum (hTy dv) 16) 10).length ((und (hTy dv) dv (pos + ssum (hTy dv) 16) 10).map (Value.int .u32)) := by
    refine own_weak (own_of_block hU (fun k hk => ?_)) (by omega : B ≤ wr.heap.size)
    have hk' := hU.lt k hk
    exact blk k hk'.2 (by omega) (fun e => by have := (hVlt k e).2; omega)
  have hu16 : RF[0 + 16]? = some U' := by
    rw [hRF]
    exact nrow_u z19 0 _ dv pos _ _ U' (Nat.le_refl _)
  have hnew : NodeAt w9 B RF 0 (hTy dv) dv pos := by
    rw [hRF]
    exact node_new hU9 (fun hb i hi => (hbw.cell (by rw [add_block]; exact ha2)).trans (hdat hb i hi)) ha2
  have old : ∀ j i, j < ds.length → i < 19 → (xs ++ RF.toList)[j * 19 + i]? = xs[j * 19 + i]? := fun j i hj hi => by
    have : (j + 1) * 19 ≤ ds.length * 19 := Nat.mul_le_mul_right _ hj
    rw [List.getElem?_append_left (by omega)]
  have new : ∀ i, i < 19 → (xs ++ RF.toList)[ds.length * 19 + i]? = RF[0 + i]? := fun i hi => by
    rw [List.getElem?_append_right (by omega), hxl, Nat.add_sub_cancel_left, Nat.zero_add]
    simp
  have hB1 : B + 1 < w8.heap.size := by omega
  refine ⟨?_, ?_, ?_, fun j p hp => ?_, fun j U k hj hU1 hk => ?_, h.below.trans hbw, fun ps b hsc => ?_, ?_, ?_⟩
  · rw [blk B (by omega) (by omega) (fun e => by have := (hVlt B e).1; omega)]
    exact (hW6.block B (by omega)).trans h.res
  · have h1 := heap_setCell_same w8 (B + 1) 5 _ 39 (.slice (some ⟨g, 0, none⟩) (ds.length + 1) cap) e5
    rw [hw9]
    simpa using h1
  · rw [List.length_append]
    refine own_of_block hown (fun k hk => ?_)
    rw [hw9]
    have := (hown.lt k hk).1
    exact Below.heap_setCell _ _ _ _ (show k ≠ B + 1 by omega)
  · by_cases hj : j < ds.length
    · rw [List.getElem?_append_left hj] at hp
      have hn := h.nodes j p hp
      have hk : NodeAt w9 B xs.toArray (j * 19) (hTy dv) dv p := hn.keep hbw (fun U k hU1 hk => by
        have hf := h.far j U k hj (by simpa using hU1) hk
        exact (blk k (by omega) (by omega) hf.2.2).trans (hW6.block k hf.2.1))
      exact hk.move (fun i hi => by simpa using old j i hj hi)
    · rw [List.getElem?_append_right (by omega)] at hp
      have hj0 : j - ds.length = 0 := by
        rcases Nat.eq_zero_or_pos (j - ds.length) with h0 | h0
        · exact h0
        · rw [List.getElem?_eq_none (by simp; omega)] at hp; cases hp
      obtain rfl : j = ds.length := by omega
      rw [hj0] at hp
      obtain rfl : pos = p := by simpa using hp
      exact hnew.move (fun i hi => by simpa using new i hi)
  · have hw9s : w9.heap.size = w8.heap.size := by rw [hw9, World.size_setCell]
    rw [hw9s]
    by_cases hjl : j < ds.length
    · rw [old j 16 hjl (by omega)] at hU1
      have hf := h.far j U k hjl hU1 hk
      refine ⟨hf.1, by omega, ?_⟩
      rcases hlie with e | e
      · intro e2
        simp [Value.ownBlock] at e2
        exact hf.2.2 (by rw [e, e2])
      · intro e2
        simp [Value.ownBlock] at e2
        omega
    · obtain rfl : j = ds.length := by simp at hj; omega
      rw [new 16 (by omega), hu16] at hU1
      cases hU1
      have hk' := hU.lt k hk
      refine ⟨by omega, by omega, ?_⟩
      intro e2
      simp [Value.ownBlock] at e2
      rcases hlie with e | e
      · have := (hVlt g e).2
        omega
      · omega
  · rw [List.append_assoc]
    exact h.scan _ b ⟨rfl, hpos, hbad, hsc⟩
  · have := h.few
    have := (need_ge hbad).1
    simp
    omega
  · rw [hw9, World.size_setCell]; omega

/-- The end: exp is handed over. -/
theorem MS.fin {w wr w' : World} {B : Nat} {dv : Nat → Int} {L p0 pos : Nat} {ds : List Nat} {V : Value} {xs : List Value} (h : MS w wr B dv L p0 pos ds V xs) (hb : TStep B (hdr dv V) wr w') : w'.heap[B]? = some (.cells (hdr dv V) 39 (0, 0)) ∧ MN w' B V xs (hTy dv) dv ds ∧ Below B w w' := by
  have hs := h.size
  refine ⟨hb.par, ⟨own_weak (own_of_block h.own (fun k hk => ?_)) (by omega), fun j p hp => ?_⟩, h.below.trans (hb.below B (Nat.le_refl _))⟩
  · have := h.own.lt k hk
    exact hb.other k this.2 (by omega)
  · refine (h.nodes j p hp).keep (hb.below B (Nat.le_refl _)) (fun U g hU hg => ?_)
    have := h.far j U g (List.getElem?_eq_some_iff.1 hp).1 (by simpa using hU) hg
    exact hb.other g this.2.1 (by omega)
theorem MS.facts {w wr : World} {B : Nat} {dv : Nat → Int} {L p0 pos : Nat} {ds : List Nat} {V : Value} {xs : List Value} (h : MS w wr B dv L p0 pos ds V xs) :
    wr.cell? ⟨B + 1, 0, none⟩ = some (.int .u16 (hNs dv)) ∧ wr.cell? ⟨B + 1, 1, none⟩ = some (.int .u8 (hNl dv)) ∧ wr.cell? ⟨B + 1, 2, none⟩ = some (.int .u8 (hFl dv)) ∧ wr.cell? ⟨B + 1, 3, none⟩ = some (.int .u8 (hRl dv)) ∧ wr.cell? ⟨B + 1, 4, none⟩ = some (.int .u32 (hTy dv)) ∧ wr.cell? ⟨B + 1, 5, none⟩ = some V :=
  ⟨cell_of h.exp rfl, cell_of h.exp rfl, cell_of h.exp rfl, cell_of h.exp rfl, cell_of h.exp rfl, cell_of h.exp rfl⟩
theorem MS.room {w wr : World} {B : Nat} {dv : Nat → Int} {L p0 pos : Nat} {ds : List Nat} {V : Value} {xs : List Value} (h : MS w wr B dv L p0 pos ds V xs) :
    wr.cell? ⟨B, 0, none⟩ = some (.int .u16 0) ∧ wr.cell? ⟨B, 1, none⟩ = some (.int .u8 0) ∧ wr.cell? ⟨B, 2, none⟩ = some (.int .u8 0) ∧ wr.cell? ⟨B, 3, none⟩ = some (.int .u8 0) ∧ wr.cell? ⟨B, 4, none⟩ = some (.int .u32 0) ∧ wr.cell? ⟨B, 5, none⟩ = some (.slice none 0 0) ∧
    wr.frozen? ⟨B, 0, none⟩ = false ∧ wr.frozen? ⟨B, 1, none⟩ = false ∧ wr.frozen? ⟨B, 2, none⟩ = false ∧ wr.frozen? ⟨B, 3, none⟩ = false ∧ wr.frozen? ⟨B, 4, none⟩ = false ∧ wr.frozen? ⟨B, 5, none⟩ = false :=
  ⟨cell_of h.res rfl, cell_of h.res rfl, cell_of h.res rfl, cell_of h.res rfl, cell_of h.res rfl, cell_of h.res rfl, frozen_of h.res, frozen_of h.res, frozen_of h.res, frozen_of h.res, frozen_of h.res, frozen_of h.res⟩
/-- What the model leaves. -/
def MOut (w w' : World) (B : Nat) (dv : Nat → Int) (n : Nat) (e : Ending) : Prop := ∃ (ps : List Nat) (b : Bool) (V : Value) (xs : List Value), Says dv n ps b ∧ e = .returned (.tuple #[.agg (trc (vNs dv n) (vNl dv n) (vFl dv n) (vRl dv n) (vTy dv n) V), .bool b]) ∧ MN w' B V xs (hTy dv) dv ps ∧ Below B w w'
theorem MS.out {w wr : World} {B : Nat} {dv : Nat → Int} {n L p0 pos : Nat} {ds : List Nat} {V : Value} {xs : List Value} (h : MS w wr B dv L p0 pos ds V xs) (h8 : 8 ≤ n) (b : Bool) (hs : Says dv n ds b) {w' : World} (hb : TStep B (hdr dv V) wr w') : MOut w w' B dv n (.returned (.tuple #[.agg (hdr dv V), .bool b])) := by
  obtain ⟨h1, h2, h3⟩ := h.fin hb
  have h8' : ¬ n < 8 := by omega
  exact ⟨ds, b, V, xs, hs, by simp [vNs, vNl, vFl, vRl, vTy, h8'], h2, h3⟩
theorem nrow_one {T : Nat} {dv : Nat → Int} {p ps : Nat} {a : Option Addr} {n c : Nat} {U' : Value} (hU : U'.oneCell' = true) : (nrow z19 0 T dv p ps (.slice a n c) U').all (·.oneCell') = true := by
  have h1 : ((frow (setAll z19 0 z19.toList) 0 T dv p 16).setIfInBounds (0 + 16) U').all (·.oneCell') = true := all_set (by rw [setAll_full rfl]; exact frow_one z19_one _ _ _ _ _) hU
  unfold nrow
  split
  · exact all_set (all_set h1 (by simp [Value.oneCell'])) (by simp [Value.oneCell'])
  · exact h1
end Go.Proofs.YbulkdycwFmt
