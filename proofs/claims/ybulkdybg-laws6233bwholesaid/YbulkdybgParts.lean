/- What the law's loops keep: plain lemmas on worlds, no walk. -/
import Derived.Test.YbulkdybgRows
import Derived.WalkKit
import Derived.WalkSpells
import Derived.WalkLawsBesides
import Derived.OpenShut
import Derived.Deep.OwnRows
import Derived.Deep.DeepCutAuto
import Derived.Deep.CutBlock
import Derived.BigQuiet
import Derived.Deep.QuietTactic
namespace Go.Proofs.Ybulkdybg
open Go.RowKit
set_option linter.unusedSimpArgs false
set_option linter.unusedVariables false

/-- What the walk is told of a slice of integers that came in. -/
def IsRow (k : IntKind) (w : World) (a : Option Addr) (len cap : Nat) (zs : List Int) : Prop :=
  (a = none ∧ len = 0 ∧ cap = 0 ∧ zs = []) ∨
  ∃ x, a = some x ∧ len ≤ cap ∧ cap ≤ maxLen ∧ zs.length = cap ∧ (∀ i, i < zs.length → w.cell? (x.add i) = some (.int k (zs.getD i 0))) ∧ ∀ n ∈ zs, (Lit.int k n).wf = true

theorem lt_of_cell {w : World} {a : Addr} {v : Value} (h : w.cell? a = some v) : a.block < w.heap.size := by
  rcases Nat.lt_or_ge a.block w.heap.size with h' | h'
  · exact h'
  · simp [World.cell?, Array.getElem?_eq_none h'] at h
theorem cell_of {w : World} {b i : Nat} {c : Array Value} {t : TypeId} {v : Value} (hb : w.heap[b]? = some (.cells c t (0, 0))) (hc : c[i]? = some v) : w.cell? ⟨b, i, .none⟩ = some v := by
  simp [World.cell?, hb, hc]
theorem frozen_of {w : World} {b : Nat} {c : Array Value} {t : TypeId} (hb : w.heap[b]? = some (.cells c t (0, 0))) (i : Nat) : w.frozen? ⟨b, i, .none⟩ = false := by
  simp [World.frozen?, hb]

/-- An element, behind a name. -/
def sgOf (z : List Int) (j : Nat) : Int := z.getD j 0
theorem IsRow.elem {k : IntKind} {w : World} {a : Option Addr} {len cap : Nat} {zs : List Int} (h : IsRow k w a len cap zs) (hl : 0 < len) :
    ∃ b off, a = some ⟨b, off, none⟩ ∧ b < w.heap.size ∧ ∀ i, i < len → w.cell? ⟨b, off + i, none⟩ = some (.int k (sgOf zs i)) := by
  rcases h with ⟨_, h, _⟩ | ⟨x, rfl, h1, _, h3, hc, _⟩
  · omega
  · obtain ⟨b, off, rfl, hc'⟩ := ints_at hc (by omega)
    refine ⟨b, off, rfl, ?_, fun i hi => hc' i (by omega)⟩
    exact lt_of_cell (hc' 0 (by omega))
theorem IsRow.bound {w : World} {a : Option Addr} {len cap : Nat} {zs : List Int} (h : IsRow .u64 w a len cap zs) (i : Nat) : 0 ≤ sgOf zs i ∧ sgOf zs i ≤ 18446744073709551615 := by
  unfold sgOf
  by_cases hi : i < zs.length
  · have hw : (Lit.int .u64 (zs.getD i 0)).wf = true := by
      rcases h with ⟨_, _, _, rfl⟩ | ⟨_, _, _, _, _, _, hw⟩
      · simp at hi
      · rw [List.getD_eq_getElem?_getD, List.getElem?_eq_getElem hi]
        exact hw _ (List.getElem_mem hi)
    exact bounds_u64 hw
  · rw [List.getD_eq_getElem?_getD, List.getElem?_eq_none (by omega)]
    simp

/-- The message's address. -/
def pa (o : Option Nat) : Option Addr := o.map fun b => ⟨b, 0, none⟩
def pcell (p : Nat → Option Nat) (k j : Nat) : Value := if j < k then .pointer (pa (p j)) else .pointer none
def hcell (p : Nat → Option Nat) (cnt : Nat → Int) (k j : Nat) : Value :=
  if j < k * 2 then (if j % 2 = 0 then .int .u64 (cnt (j / 2)) else .pointer (pa (p (j / 2)))) else if j % 2 = 0 then .int .u64 0 else .pointer none
def upd (p : Nat → Option Nat) (k : Nat) (b : Option Nat) : Nat → Option Nat := fun j => if j = k then b else p j

theorem hcell_even (p : Nat → Option Nat) (cnt : Nat → Int) (k j : Nat) (h : j < k) : hcell p cnt k (j * 2) = .int .u64 (cnt j) := by
  unfold hcell; rw [if_pos (by omega), if_pos (by omega), show j * 2 / 2 = j by omega]
theorem hcell_odd (p : Nat → Option Nat) (cnt : Nat → Int) (k j : Nat) (h : j < k) : hcell p cnt k (j * 2 + 1) = .pointer (pa (p j)) := by
  unfold hcell; rw [if_pos (by omega), if_neg (by omega), show (j * 2 + 1) / 2 = j by omega]
theorem hcell_next (p : Nat → Option Nat) (cnt : Nat → Int) (k j : Nat) : (if j = k * 2 + 1 then Value.pointer (pa (p k)) else if j = k * 2 then .int .u64 (cnt k) else hcell p cnt k j) = hcell p cnt (k + 1) j := by
  unfold hcell
  by_cases h1 : j = k * 2 + 1
  · subst h1; rw [if_pos rfl, if_pos (by omega), if_neg (by omega), show (k * 2 + 1) / 2 = k by omega]
  · by_cases h2 : j = k * 2
    · subst h2; rw [if_neg h1, if_pos rfl, if_pos (by omega), if_pos (by omega), show k * 2 / 2 = k by omega]
    · rw [if_neg h1, if_neg h2]
      by_cases h3 : j < k * 2
      · rw [if_pos h3, if_pos (show j < (k + 1) * 2 by omega)]
      · rw [if_neg h3, if_neg (show ¬ j < (k + 1) * 2 by omega)]
theorem hcell_upd (p : Nat → Option Nat) (cnt : Nat → Int) (k j : Nat) (b : Option Nat) : hcell p cnt k j = hcell (upd p k b) cnt k j := by
  unfold hcell upd
  by_cases h3 : j < k * 2
  · rw [if_pos h3, if_pos h3, if_neg (show ¬ j / 2 = k by omega)]
  · rw [if_neg h3, if_neg h3]
theorem pcell_next (p : Nat → Option Nat) (k j : Nat) (b : Option Nat) : (if j = k then Value.pointer (pa b) else pcell p k j) = pcell (upd p k b) (k + 1) j := by
  unfold pcell upd
  by_cases h1 : j = k
  · subst h1; rw [if_pos rfl, if_pos (by omega), if_pos rfl]
  · rw [if_neg h1]
    by_cases h3 : j < k
    · rw [if_pos h3, if_pos (by omega), if_neg h1]
    · rw [if_neg h3, if_neg (by omega)]
theorem pcell_nil (p : Nat → Option Nat) (k j : Nat) : pcell p k j = pcell (upd p k none) (k + 1) j := by
  rw [← pcell_next]
  by_cases h1 : j = k
  · subst h1; rw [if_pos rfl]; unfold pcell; rw [if_neg (by omega)]; rfl
  · rw [if_neg h1]

/-- At the head of a round: kp messages made, kh waiters laid. B: the pointers' block, B + 1: the heap's, B + 2: the heap's variable. -/
structure M1 (B n : Nat) (p : Nat → Option Nat) (cnt : Nat → Int) (kp kh : Nat) (w wr : World) : Prop where
  below : Below B w wr
  size : B + 3 ≤ wr.heap.size
  rowP : wr.rowIs B 39 n (pcell p kp)
  rowH : wr.rowIs (B + 1) 46 (n * 2) (hcell p cnt kh)
  hv : wr.heap[B + 2]? = some (.cells #[.slice (some ⟨B + 1, 0, none⟩) n n] 37 (0, 0))
  msg : ∀ j, j < kp → ∀ b, p j = some b → B + 3 ≤ b ∧ b < wr.heap.size ∧ wr.heap[b]? = some (.cells #[.int .i64 j, .int .u64 (cnt j), .slice none 0 0, .slice none 0 0, .slice none 0 0, .int .i64 0] 44 (0, 0))

theorem M1.start (w : World) (n : Nat) (cnt : Nat → Int) :
    M1 w.heap.size n (fun _ => none) cnt 0 0 w (((w.alloc (.cells (madeCells #[.pointer none] n) 39)).alloc (.cells (madeCells #[.int .u64 0, .pointer none] (n * 2)) 46)).alloc (.cells #[.slice (some ⟨w.heap.size + 1, 0, none⟩) n n] 37)) where
  below := (((Below.refl _ _).alloc (Nat.le_refl _) _).alloc (by simp) _).alloc (by simp; omega) _
  size := by simp
  rowP := (((World.rowIs_made w (.pointer none) n 39).congr (g := pcell (fun _ => none) 0) (fun i _ => by simp [pcell])).alloc _).alloc _
  rowH := by
    have h := World.rowIs_alloc (w.alloc (.cells (madeCells #[.pointer none] n) 39)) (madeCells #[.int .u64 0, .pointer none] (n * 2)) 46 (hcell (fun _ => none) cnt 0) (fun i hi => by
      rw [size_madeCells] at hi
      have : i % 2 = 0 ∨ i % 2 = 1 := by omega
      unfold hcell
      rw [if_neg (by omega)]
      rcases this with h | h <;> simp [madeCells, hi, h])
    rw [size_madeCells, World.size_alloc] at h
    exact h.alloc _
  hv := by
    have h := heap_alloc_new ((w.alloc (.cells (madeCells #[.pointer none] n) 39)).alloc (.cells (madeCells #[.int .u64 0, .pointer none] (n * 2)) 46)) (.cells #[.slice (some ⟨w.heap.size + 1, 0, none⟩) n n] 37)
    rwa [World.size_alloc, World.size_alloc] at h
  msg := fun j hj => absurd hj (Nat.not_lt_zero _)

/-- No message for this count. -/
theorem M1.skip {B n k : Nat} {p : Nat → Option Nat} {cnt : Nat → Int} {w wr : World} (h : M1 B n p cnt k k w wr) : M1 B n (upd p k none) cnt (k + 1) k w wr where
  below := h.below
  size := h.size
  rowP := h.rowP.congr (fun j _ => pcell_nil p k j)
  rowH := h.rowH.congr (fun j _ => hcell_upd p cnt k j none)
  hv := h.hv
  msg := fun j hj b hb => by
    by_cases e : j = k
    · subst e; simp [upd] at hb
    · simp only [upd, if_neg e] at hb
      exact h.msg j (by omega) b hb

/-- A message. -/
theorem M1.make {B n k : Nat} {p : Nat → Option Nat} {cnt : Nat → Int} {w wr w2 : World} (h : M1 B n p cnt k k w wr)
    (h2 : w2 = (wr.setCell ⟨B, k, none⟩ (.pointer (some ⟨wr.heap.size, 0, none⟩))).alloc (.cells #[.int .i64 k, .int .u64 (cnt k), .slice none 0 0, .slice none 0 0, .slice none 0 0, .int .i64 0] 44)) :
    M1 B n (upd p k (some wr.heap.size)) cnt (k + 1) k w w2 := by
  have hs := h.size
  have hz : w2.heap.size = wr.heap.size + 1 := by subst h2; simp
  have ho : ∀ i, i < wr.heap.size → i ≠ B → w2.heap[i]? = wr.heap[i]? := fun i hi hne => by
    subst h2
    rw [Below.heap_alloc _ _ _ (by simp; omega), Below.heap_setCell _ _ _ _ hne]
  refine ⟨?_, by omega, ?_, ?_, ?_, ?_⟩
  · subst h2
    exact (h.below.setCell (Nat.le_refl _) _).alloc (by simp; omega) _
  · subst h2
    exact ((h.rowP.set k (.pointer (some ⟨wr.heap.size, 0, none⟩))).congr (fun j _ => pcell_next p k j (some wr.heap.size))).alloc _
  · exact (h.rowH.congr (fun j _ => hcell_upd p cnt k j _)).of_block (ho _ (by omega) (by omega))
  · rw [ho _ (by omega) (by omega)]; exact h.hv
  · intro j hj b hb
    by_cases e : j = k
    · subst e
      simp only [upd, if_true, Option.some.injEq] at hb
      subst hb
      refine ⟨hs, by omega, ?_⟩
      subst h2
      have := heap_alloc_new (wr.setCell ⟨B, j, none⟩ (.pointer (some ⟨wr.heap.size, 0, none⟩))) (.cells #[.int .i64 j, .int .u64 (cnt j), .slice none 0 0, .slice none 0 0, .slice none 0 0, .int .i64 0] 44)
      rwa [World.size_setCell] at this
    · simp only [upd, if_neg e] at hb
      obtain ⟨h3, h4, h5⟩ := h.msg j (by omega) b hb
      exact ⟨h3, by omega, (ho b h4 (by omega)).trans h5⟩

/-- The waiter. -/
theorem M1.lay {B n k : Nat} {p : Nat → Option Nat} {cnt : Nat → Int} {w wr w2 : World} (h : M1 B n p cnt (k + 1) k w wr)
    (h2 : w2 = ((wr.setCell ⟨B + 1, k * 2, none⟩ (.int .u64 (cnt k))).setCell ⟨B + 1, k * 2 + 1, none⟩ (.pointer (pa (p k)))).drew) :
    M1 B n p cnt (k + 1) (k + 1) w w2 := by
  have hz : w2.heap.size = wr.heap.size := by subst h2; show ((wr.setCell _ _).setCell _ _).heap.size = _; simp
  have ho : ∀ i, i ≠ B + 1 → w2.heap[i]? = wr.heap[i]? := fun i hne => by
    subst h2
    show ((wr.setCell _ _).setCell _ _).heap[i]? = _
    rw [Below.heap_setCell _ _ _ _ hne, Below.heap_setCell _ _ _ _ hne]
  refine ⟨?_, by have := h.size; omega, h.rowP.of_block (ho _ (by omega)), ?_, (ho _ (by omega)).trans h.hv, fun j hj b hb => ?_⟩
  · subst h2
    exact ((h.below.setCell (p := ⟨B + 1, k * 2, none⟩) (by show B ≤ B + 1; omega) _).setCell (p := ⟨B + 1, k * 2 + 1, none⟩) (by show B ≤ B + 1; omega) _).drew
  · subst h2
    exact (((h.rowH.set (k * 2) _).set (k * 2 + 1) _).congr (fun j _ => hcell_next p cnt k j)).drew
  · obtain ⟨h3, h4, h5⟩ := h.msg j hj b hb
    exact ⟨h3, by omega, (ho b (by omega)).trans h5⟩

/-- Behind Pop (m + 1 waiters were there). D: the block of the popped waiter's variable. -/
structure Fin (B n m D : Nat) (p : Nat → Option Nat) (cnt : Nat → Int) (w wx : World) : Prop where
  below : Below B w wx
  pp : ∀ j, j < n → wx.cell? ⟨B, j, none⟩ = some (.pointer (pa (p j)))
  h0 : ∀ j, j < m → wx.cell? ⟨B + 1, j * 2, none⟩ = some (.int .u64 (cnt j))
  h1 : ∀ j, j < m → wx.cell? ⟨B + 1, j * 2 + 1, none⟩ = some (.pointer (pa (p j)))
  l0 : wx.cell? ⟨B + 1, m * 2, none⟩ = some (.int .u64 0)
  l1 : wx.cell? ⟨B + 1, m * 2 + 1, none⟩ = some (.pointer none)
  hv : wx.cell? ⟨B + 2, 0, none⟩ = some (.slice (some ⟨B + 1, 0, none⟩) m n)
  d0 : wx.cell? ⟨D, 0, none⟩ = some (.int .u64 (cnt m))
  d1 : wx.cell? ⟨D, 1, none⟩ = some (.pointer (pa (p m)))
  msg : ∀ j, j < n → ∀ b, p j = some b → wx.cell? ⟨b, 0, none⟩ = some (.int .i64 j) ∧ wx.cell? ⟨b, 1, none⟩ = some (.int .u64 (cnt j))

theorem Fin.drewN {B n m D : Nat} {p : Nat → Option Nat} {cnt : Nat → Int} {w wx : World} (h : Fin B n m D p cnt w wx) (q : Nat) : Fin B n m D p cnt w (wx.drewN q) :=
  ⟨below_drewN h.below q, h.pp, h.h0, h.h1, h.l0, h.l1, h.hv, h.d0, h.d1, h.msg⟩

theorem fin_of {B n m : Nat} (hn : n = m + 1) {p : Nat → Option Nat} {cnt : Nat → Int} {w wr w1 : World} (h : M1 B n p cnt n n w wr)
    (c0 c1 : Value) (hw : w1 = (((wr.setCell ⟨B + 1, m * 2, none⟩ (.int .u64 0)).setCell ⟨B + 1, m * 2 + 1, none⟩ (.pointer none)).setCell ⟨B + 2, 0, none⟩ (.slice (some ⟨B + 1, 0, none⟩) m n)).alloc (.cells #[c0, c1] 46)) :
    Fin B n m (wr.heap.size + 1) p cnt w (w1.alloc (.cells #[.int .u64 (cnt m), .pointer (pa (p m))] 46)) := by
  subst hn
  have hs := h.size
  have hz : w1.heap.size = wr.heap.size + 1 := by subst hw; simp
  have ho : ∀ i, i < wr.heap.size → i ≠ B + 1 → i ≠ B + 2 → (w1.alloc (.cells #[.int .u64 (cnt m), .pointer (pa (p m))] 46)).heap[i]? = wr.heap[i]? := fun i hi e1 e2 => by
    rw [Below.heap_alloc _ _ _ (by omega)]
    subst hw
    rw [Below.heap_alloc _ _ _ (by simp; omega), Below.heap_setCell _ _ _ _ e2, Below.heap_setCell _ _ _ _ e1, Below.heap_setCell _ _ _ _ e1]
  have hrow : (w1.alloc (.cells #[.int .u64 (cnt m), .pointer (pa (p m))] 46)).rowIs (B + 1) 46 ((m + 1) * 2) (fun j => if j = m * 2 + 1 then Value.pointer none else if j = m * 2 then .int .u64 0 else hcell p cnt (m + 1) j) := by
    subst hw
    exact (((((h.rowH.set (m * 2) (.int .u64 0)).set (m * 2 + 1) (.pointer none)).setOther (a := ⟨B + 2, 0, none⟩) (by show B + 1 ≠ B + 2; omega) _).alloc _).alloc _)
  have hd := heap_alloc_new w1 (.cells #[.int .u64 (cnt m), .pointer (pa (p m))] 46)
  rw [hz] at hd
  refine ⟨?_, fun j hj => ?_, fun j hj => ?_, fun j hj => ?_, ?_, ?_, ?_, cell_of hd rfl, cell_of hd rfl, fun j hj b hb => ?_⟩
  · subst hw
    exact ((((h.below.setCell (p := ⟨B + 1, m * 2, none⟩) (by show B ≤ B + 1; omega) _).setCell (p := ⟨B + 1, m * 2 + 1, none⟩) (by show B ≤ B + 1; omega) _).setCell (p := ⟨B + 2, 0, none⟩) (by show B ≤ B + 2; omega) _).alloc (by simp; omega) _).alloc (by simp; omega) _
  · have := (h.rowP.of_block (ho B (by omega) (by omega) (by omega))).cell hj
    rw [this]; simp [pcell, hj]
  · rw [hrow.cell (by omega)]
    show some (if j * 2 = m * 2 + 1 then _ else if j * 2 = m * 2 then _ else _) = _
    rw [if_neg (by omega), if_neg (by omega), hcell_even _ _ _ _ (by omega)]
  · rw [hrow.cell (by omega)]
    show some (if j * 2 + 1 = m * 2 + 1 then _ else if j * 2 + 1 = m * 2 then _ else _) = _
    rw [if_neg (by omega), if_neg (by omega), hcell_odd _ _ _ _ (by omega)]
  · rw [hrow.cell (by omega)]
    show some (if m * 2 = m * 2 + 1 then _ else if m * 2 = m * 2 then _ else _) = _
    rw [if_neg (by omega), if_pos rfl]
  · rw [hrow.cell (by omega)]
    show some (if m * 2 + 1 = m * 2 + 1 then _ else _) = _
    rw [if_pos rfl]
  · rw [World.cell?_of_block (w := w1) (Below.heap_alloc _ _ _ (by show B + 2 < _; omega))]
    subst hw
    rw [World.cell?_of_block (Below.heap_alloc _ _ _ (by show B + 2 < _; simp; omega))]
    refine World.cell?_setCell_same (u := .slice (some ⟨B + 1, 0, none⟩) (m + 1) (m + 1)) _ _ _ ?_
    rw [World.cell?_setCell_other _ _ _ _ (by simp), World.cell?_setCell_other _ _ _ _ (by simp)]
    exact cell_of h.hv rfl
  · obtain ⟨h3, h4, h5⟩ := h.msg j hj b hb
    have h6 := (ho b h4 (by omega) (by omega)).trans h5
    exact ⟨cell_of h6 rfl, cell_of h6 rfl⟩

/-- A pointer against itself. -/
theorem equalIn_ptr (t e : TypeId) (ht : Yba.prog.underlying t = some (.pointer e)) (hz : (Yba.prog.info? e).map (fun i => decide (i.size = 0)) = some false) (a : Option Addr) (d : Nat) (w : World) : (Op.equalIn (d + 1) t (.pointer a) (.pointer a)).run Yba.prog w = .ok true w := by
  obtain ⟨i, hi, hz'⟩ := Option.map_eq_some_iff.1 hz
  have hz2 : i.size ≠ 0 := by simpa using hz'
  cases a with
  | none => simp [Op.equalIn, run_underlying ht]
  | some a => simp [Op.equalIn, run_underlying ht, sizeOf, typeInfo, hi, hz2, sameAddr]
theorem neq_ptr (t e : TypeId) (ht : Yba.prog.underlying t = some (.pointer e)) (hz : (Yba.prog.info? e).map (fun i => decide (i.size = 0)) = some false) (a : Option Addr) (w : World) : (binOp .neq t (.pointer a) (.pointer a)).run Yba.prog w = .ok (.bool false) w := by
  simp only [binOp]
  simp [Op.equal, Op.maxDepth, equalIn_ptr t e ht hz a 9999 w]
end Go.Proofs.Ybulkdybg
