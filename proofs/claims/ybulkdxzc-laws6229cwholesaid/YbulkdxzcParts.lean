/- What the law's loops keep: plain lemmas on worlds, no walk. -/
import Derived.Test.YbulkdxzcPush
namespace Go.Proofs.Ybulkdxzc
open Go.RowKit
set_option linter.unusedSimpArgs false
set_option linter.unusedVariables false

/-- What the walk is told of a slice of integers that came in. -/
def IsRow (k : IntKind) (w : World) (a : Option Addr) (len cap : Nat) (zs : List Int) : Prop :=
  (a = none ∧ len = 0 ∧ cap = 0 ∧ zs = []) ∨
  ∃ x, a = some x ∧ len ≤ cap ∧ cap ≤ maxLen ∧ zs.length = cap ∧ (∀ i, i < zs.length → w.cell? (x.add i) = some (.int k (zs.getD i 0))) ∧ ∀ n ∈ zs, (Lit.int k n).wf = true

theorem lt_of_cell {w : World} {a : Addr} {v : Value} (h : w.cell? a = some v) : a.block < w.heap.size := by
  rcases Nat.lt_or_ge a.block w.heap.size with h' | h'
  · exact h'
  · simp [World.cell?, Array.getElem?_eq_none h'] at h

/-- An element that came in, at a plain address. -/
theorem IsRow.at {k : IntKind} {w : World} {a : Option Addr} {len cap : Nat} {zs : List Int} (h : IsRow k w a len cap zs) (hl : 0 < len) :
    ∃ b off, a = some ⟨b, off, none⟩ ∧ b < w.heap.size ∧ ∀ i, i < len → w.cell? ⟨b, off + i, none⟩ = some (.int k (zs.getD i 0)) := by
  rcases h with ⟨_, h, _⟩ | ⟨x, rfl, h1, _, h3, hc, _⟩
  · omega
  · obtain ⟨b, off, rfl, hc'⟩ := ints_at hc (by omega)
    refine ⟨b, off, rfl, ?_, fun i hi => hc' i (by omega)⟩
    exact lt_of_cell (hc' 0 (by omega))
theorem IsRow.bound {w : World} {a : Option Addr} {len cap : Nat} {zs : List Int} (h : IsRow .i64 w a len cap zs) (i : Nat) : -9223372036854775808 ≤ zs.getD i 0 ∧ zs.getD i 0 ≤ 9223372036854775807 := by
  by_cases hi : i < zs.length
  · have hw : (Lit.int .i64 (zs.getD i 0)).wf = true := by
      rcases h with ⟨_, _, _, rfl⟩ | ⟨_, _, _, _, _, _, hw⟩
      · simp at hi
      · rw [List.getD_eq_getElem?_getD, List.getElem?_eq_getElem hi]
        exact hw _ (List.getElem_mem hi)
    exact bounds_i64 hw
  · rw [List.getD_eq_getElem?_getD, List.getElem?_eq_none (by omega)]
    simp
theorem IsRow.len {k : IntKind} {w : World} {a : Option Addr} {len cap : Nat} {zs : List Int} (h : IsRow k w a len cap zs) : len ≤ 9223372036854775807 := by
  rcases h with ⟨_, h, _⟩ | ⟨_, _, h1, h2, _⟩
  · omega
  · unfold maxLen at h2; omega

/-- An element, behind a name. -/
def sgOf (z : List Int) (j : Nat) : Int := z.getD j 0
/-- The j-th coefficient of the law's own reckoning. -/
def cfOf (len : Nat) (z : List Int) (j : Nat) : Int := if len = 0 then (j : Int) else sgOf z (j % len)
theorem IsRow.elem {w : World} {a : Option Addr} {len cap : Nat} {zs : List Int} (h : IsRow .i64 w a len cap zs) (hl : 0 < len) :
    ∃ b off, a = some ⟨b, off, none⟩ ∧ b < w.heap.size ∧ ∀ i, i < len → w.cell? ⟨b, off + i, none⟩ = some (.int .i64 (sgOf zs i)) := h.at hl
theorem cf_bound {w : World} {a : Option Addr} {len cap : Nat} {zs : List Int} (h : IsRow .i64 w a len cap zs) (j : Nat) (hj : j ≤ 1048576) : -9223372036854775808 ≤ cfOf len zs j ∧ cfOf len zs j ≤ 9223372036854775807 := by
  unfold cfOf
  by_cases e : len = 0
  · rw [if_pos e]; omega
  · rw [if_neg e]; exact h.bound _

/-- A row of pairs (a pointer, a number), k of them filled. -/
def tcell (f : Nat → Nat) (sig : Nat → Int) (k j : Nat) : Value :=
  if j < k * 2 then (if j % 2 = 0 then .pointer (some ⟨f (j / 2), 0, none⟩) else .int .i64 (sig (j / 2))) else if j % 2 = 0 then .pointer none else .int .i64 0
/-- A row of pairs (a number, a pointer), k of them filled. -/
def scell (f : Nat → Nat) (se : Nat → Int) (k j : Nat) : Value :=
  if j < k * 2 then (if j % 2 = 0 then .int .i64 (se (j / 2)) else .pointer (some ⟨f (j / 2), 0, none⟩)) else if j % 2 = 0 then .int .i64 0 else .pointer none
def ccell (f : Nat → Nat) (k j : Nat) : Value := if j < k then .pointer (some ⟨f j, 0, none⟩) else .pointer none
def vcell (cf : Nat → Int) (k j : Nat) : Value := if j < k then .int .i64 (cf j) else .int .i64 0
/-- f, k turned to b. -/
def upd (f : Nat → Nat) (k b : Nat) : Nat → Nat := fun j => if j = k then b else f j

theorem tcell_even (f : Nat → Nat) (sig : Nat → Int) (k j : Nat) (h : j < k) : tcell f sig k (j * 2) = .pointer (some ⟨f j, 0, none⟩) := by
  unfold tcell; rw [if_pos (by omega), if_pos (by omega), show j * 2 / 2 = j by omega]
theorem tcell_odd (f : Nat → Nat) (sig : Nat → Int) (k j : Nat) (h : j < k) : tcell f sig k (j * 2 + 1) = .int .i64 (sig j) := by
  unfold tcell; rw [if_pos (by omega), if_neg (by omega), show (j * 2 + 1) / 2 = j by omega]
theorem scell_even (f : Nat → Nat) (sig : Nat → Int) (k j : Nat) (h : j < k) : scell f sig k (j * 2) = .int .i64 (sig j) := by
  unfold scell; rw [if_pos (by omega), if_pos (by omega), show j * 2 / 2 = j by omega]
theorem scell_odd (f : Nat → Nat) (sig : Nat → Int) (k j : Nat) (h : j < k) : scell f sig k (j * 2 + 1) = .pointer (some ⟨f j, 0, none⟩) := by
  unfold scell; rw [if_pos (by omega), if_neg (by omega), show (j * 2 + 1) / 2 = j by omega]
theorem tcell_next (f : Nat → Nat) (sig : Nat → Int) (k b j : Nat) : (if j = k * 2 + 1 then Value.int .i64 (sig k) else if j = k * 2 then .pointer (some ⟨b, 0, none⟩) else tcell f sig k j) = tcell (upd f k b) sig (k + 1) j := by
  unfold tcell upd
  by_cases h1 : j = k * 2 + 1
  · subst h1; rw [if_pos rfl, if_pos (by omega), if_neg (by omega), show (k * 2 + 1) / 2 = k by omega]
  · by_cases h2 : j = k * 2
    · subst h2; rw [if_neg h1, if_pos rfl, if_pos (by omega), if_pos (by omega), show k * 2 / 2 = k by omega, if_pos rfl]
    · rw [if_neg h1, if_neg h2]
      by_cases h3 : j < k * 2
      · rw [if_pos h3, if_pos (show j < (k + 1) * 2 by omega), if_neg (show ¬ j / 2 = k by omega)]
      · rw [if_neg h3, if_neg (show ¬ j < (k + 1) * 2 by omega)]
theorem scell_next (f : Nat → Nat) (sig : Nat → Int) (k b j : Nat) : (if j = k * 2 + 1 then Value.pointer (some ⟨b, 0, none⟩) else if j = k * 2 then .int .i64 (sig k) else scell f sig k j) = scell (upd f k b) sig (k + 1) j := by
  unfold scell upd
  by_cases h1 : j = k * 2 + 1
  · subst h1; rw [if_pos rfl, if_pos (by omega), if_neg (by omega), show (k * 2 + 1) / 2 = k by omega, if_pos rfl]
  · by_cases h2 : j = k * 2
    · subst h2; rw [if_neg h1, if_pos rfl, if_pos (by omega), if_pos (by omega), show k * 2 / 2 = k by omega]
    · rw [if_neg h1, if_neg h2]
      by_cases h3 : j < k * 2
      · rw [if_pos h3, if_pos (show j < (k + 1) * 2 by omega), if_neg (show ¬ j / 2 = k by omega)]
      · rw [if_neg h3, if_neg (show ¬ j < (k + 1) * 2 by omega)]
theorem ccell_next (f : Nat → Nat) (k b j : Nat) : (if j = k then Value.pointer (some ⟨b, 0, none⟩) else ccell f k j) = ccell (upd f k b) (k + 1) j := by
  unfold ccell upd
  by_cases h1 : j = k
  · subst h1; rw [if_pos rfl, if_pos (by omega), if_pos rfl]
  · rw [if_neg h1]
    by_cases h3 : j < k
    · rw [if_pos h3, if_pos (by omega), if_neg h1]
    · rw [if_neg h3, if_neg (by omega)]
theorem vcell_next (cf : Nat → Int) (k j : Nat) : (if j = k then Value.int .i64 (cf k) else vcell cf k j) = vcell cf (k + 1) j := by
  unfold vcell
  by_cases h1 : j = k
  · subst h1; rw [if_pos rfl, if_pos (by omega)]
  · rw [if_neg h1]
    by_cases h3 : j < k
    · rw [if_pos h3, if_pos (by omega)]
    · rw [if_neg h3, if_neg (by omega)]

/-- At the head of the first loop's round k. B: the first new block (the terms; behind it the pointers, the values). -/
structure L1 (B n e : Nat) (f : Nat → Nat) (sig cf : Nat → Int) (k : Nat) (w wr : World) : Prop where
  below : Below B w wr
  size : B + 3 ≤ wr.heap.size
  rowT : wr.rowIs B 29 ((n + e) * 2) (tcell f sig k)
  rowC : wr.rowIs (B + 1) 26 n (ccell f k)
  rowV : wr.rowIs (B + 2) 2 n (vcell cf k)
  big : ∀ j, j < k → Big wr (B + 3) wr.heap.size (f j) (cf j)

theorem L1.start (w : World) (n e : Nat) (sig cf : Nat → Int) :
    L1 w.heap.size n e (fun _ => 0) sig cf 0 w (((w.alloc (.cells (madeCells #[.pointer none, .int .i64 0] ((n + e) * 2)) 29)).alloc (.cells (madeCells #[.pointer none] n) 26)).alloc (.cells (madeCells #[.int .i64 0] n) 2)) where
  below := (((Below.refl _ _).alloc (Nat.le_refl _) _).alloc (by simp) _).alloc (by simp; omega) _
  size := by simp
  rowT := by
    have h := World.rowIs_alloc w (madeCells #[.pointer none, .int .i64 0] ((n + e) * 2)) 29 (tcell (fun _ => 0) sig 0) (fun i hi => by
      rw [size_madeCells] at hi
      have : i % 2 = 0 ∨ i % 2 = 1 := by omega
      unfold tcell
      rw [if_neg (by omega)]
      rcases this with h | h <;> simp [madeCells, hi, h])
    rw [size_madeCells] at h
    exact (h.alloc _).alloc _
  rowC := by
    have h := (World.rowIs_made (w.alloc (.cells (madeCells #[.pointer none, .int .i64 0] ((n + e) * 2)) 29)) (.pointer none) n 26).congr (g := ccell (fun _ => 0) 0) (fun i _ => by simp [ccell])
    rw [World.size_alloc] at h
    exact h.alloc _
  rowV := by
    have h := (World.rowIs_made ((w.alloc (.cells (madeCells #[.pointer none, .int .i64 0] ((n + e) * 2)) 29)).alloc (.cells (madeCells #[.pointer none] n) 26)) (.int .i64 0) n 2).congr (g := vcell cf 0) (fun i _ => by simp [vcell])
    rw [World.size_alloc, World.size_alloc] at h
    exact h
  big := fun j hj => absurd hj (Nat.not_lt_zero _)

/-- One round: the value stored, the new big integer, its pointer stored, the pair stored. -/
theorem L1.next {B n e k b : Nat} {f : Nat → Nat} {sig cf : Nat → Int} {w wr w1 w2 : World} (h : L1 B n e f sig cf k w wr)
    (hb : Below wr.heap.size (wr.setCell ⟨B + 2, k, none⟩ (.int .i64 (cf k))) w1) (hbig : Big w1 wr.heap.size w1.heap.size b (cf k))
    (h2 : w2 = (((w1.setCell ⟨B + 1, k, none⟩ (.pointer (some ⟨b, 0, none⟩))).setCell ⟨B, k * 2, none⟩ (.pointer (some ⟨b, 0, none⟩))).setCell ⟨B, k * 2 + 1, none⟩ (.int .i64 (sig k))).drew) :
    L1 B n e (upd f k b) sig cf (k + 1) w w2 := by
  have hs := h.size
  have hz : wr.heap.size ≤ w1.heap.size := by have := hb.size; simpa using this
  have hz2 : w2.heap.size = w1.heap.size := by subst h2; show (((w1.setCell _ _).setCell _ _).setCell _ _).heap.size = _; simp
  have hbk : ∀ i, i < wr.heap.size → w1.heap[i]? = (wr.setCell ⟨B + 2, k, none⟩ (.int .i64 (cf k))).heap[i]? := fun i hi => hb.block i hi
  have rT : w1.rowIs B 29 ((n + e) * 2) (tcell f sig k) := (h.rowT.setOther (a := ⟨B + 2, k, none⟩) (by show B ≠ B + 2; omega) _).of_block (hbk _ (by omega))
  have rC : w1.rowIs (B + 1) 26 n (ccell f k) := (h.rowC.setOther (a := ⟨B + 2, k, none⟩) (by show B + 1 ≠ B + 2; omega) _).of_block (hbk _ (by omega))
  have rV : w1.rowIs (B + 2) 2 n (vcell cf (k + 1)) := ((h.rowV.set k (.int .i64 (cf k))).congr (fun j _ => vcell_next cf k j)).of_block (hbk _ (by omega))
  have ho : ∀ i, B + 3 ≤ i → w2.heap[i]? = w1.heap[i]? := fun i hi => by
    subst h2
    show (((w1.setCell _ _).setCell _ _).setCell _ _).heap[i]? = _
    rw [Below.heap_setCell _ _ _ _ (by show i ≠ B; omega), Below.heap_setCell _ _ _ _ (by show i ≠ B; omega), Below.heap_setCell _ _ _ _ (by show i ≠ B + 1; omega)]
  refine ⟨?_, by omega, ?_, ?_, ?_, ?_⟩
  · subst h2
    exact ((((h.below.setCell (p := ⟨B + 2, k, none⟩) (by show B ≤ B + 2; omega) _).trans (hb.mono (by omega))).setCell (p := ⟨B + 1, k, none⟩) (by show B ≤ B + 1; omega) _).setCell (p := ⟨B, k * 2, none⟩) (Nat.le_refl _) _).setCell (p := ⟨B, k * 2 + 1, none⟩) (Nat.le_refl _) _ |>.drew
  · subst h2
    exact (((rT.setOther (a := ⟨B + 1, k, none⟩) (by show B ≠ B + 1; omega) _).set (k * 2) _).set (k * 2 + 1) _).congr (fun j _ => tcell_next f sig k b j) |>.drew
  · subst h2
    exact (((rC.set k (.pointer (some ⟨b, 0, none⟩))).congr (fun j _ => ccell_next f k b j)).setOther (a := ⟨B, k * 2, none⟩) (by show B + 1 ≠ B; omega) _).setOther (a := ⟨B, k * 2 + 1, none⟩) (by show B + 1 ≠ B; omega) _ |>.drew
  · subst h2
    exact ((rV.setOther (a := ⟨B + 1, k, none⟩) (by show B + 2 ≠ B + 1; omega) _).setOther (a := ⟨B, k * 2, none⟩) (by show B + 2 ≠ B; omega) _).setOther (a := ⟨B, k * 2 + 1, none⟩) (by show B + 2 ≠ B; omega) _ |>.drew
  · intro j hj
    by_cases e : j = k
    · subst e
      have : upd f j b j = b := by simp [upd]
      rw [this, hz2]
      exact (hbig.low hs).keep (fun i h1 _ => ho i h1)
    · have : upd f k b j = f j := by simp [upd, e]
      rw [this]
      have hB := h.big j (by omega)
      refine ((hB.keep (W' := w2) (fun i h1 h3 => ?_))).wide (by omega)
      rw [ho i h1, hbk i h3, Below.heap_setCell _ _ _ _ (by show i ≠ B + 2; omega)]

/-- At the head of the second loop's round k. Q: the scalings' block, behind it their pointers. -/
structure L2 (Q m : Nat) (f : Nat → Nat) (se : Nat → Int) (k : Nat) (w wr : World) : Prop where
  below : Below Q w wr
  size : Q + 2 ≤ wr.heap.size
  rowS : wr.rowIs Q 32 (m * 2) (scell f se k)
  rowB : wr.rowIs (Q + 1) 26 m (ccell f k)
  big : ∀ j, j < k → Big wr (Q + 2) wr.heap.size (f j) ((j : Int) + 2)

theorem L2.start (w : World) (m : Nat) (se : Nat → Int) :
    L2 w.heap.size m (fun _ => 0) se 0 w ((w.alloc (.cells (madeCells #[.int .i64 0, .pointer none] (m * 2)) 32)).alloc (.cells (madeCells #[.pointer none] m) 26)) where
  below := ((Below.refl _ _).alloc (Nat.le_refl _) _).alloc (by simp) _
  size := by simp
  rowS := by
    have h := World.rowIs_alloc w (madeCells #[.int .i64 0, .pointer none] (m * 2)) 32 (scell (fun _ => 0) se 0) (fun i hi => by
      rw [size_madeCells] at hi
      have : i % 2 = 0 ∨ i % 2 = 1 := by omega
      unfold scell
      rw [if_neg (by omega)]
      rcases this with h | h <;> simp [madeCells, hi, h])
    rw [size_madeCells] at h
    exact h.alloc _
  rowB := by
    have h := (World.rowIs_made (w.alloc (.cells (madeCells #[.int .i64 0, .pointer none] (m * 2)) 32)) (.pointer none) m 26).congr (g := ccell (fun _ => 0) 0) (fun i _ => by simp [ccell])
    rw [World.size_alloc] at h
    exact h
  big := fun j hj => absurd hj (Nat.not_lt_zero _)

theorem L2.next {Q m k b : Nat} {f : Nat → Nat} {se : Nat → Int} {w wr w1 w2 : World} (h : L2 Q m f se k w wr)
    (hb : Below wr.heap.size wr w1) (hbig : Big w1 wr.heap.size w1.heap.size b ((k : Int) + 2))
    (h2 : w2 = (((w1.setCell ⟨Q + 1, k, none⟩ (.pointer (some ⟨b, 0, none⟩))).setCell ⟨Q, k * 2, none⟩ (.int .i64 (se k))).setCell ⟨Q, k * 2 + 1, none⟩ (.pointer (some ⟨b, 0, none⟩))).drew) :
    L2 Q m (upd f k b) se (k + 1) w w2 := by
  have hs := h.size
  have hz : wr.heap.size ≤ w1.heap.size := hb.size
  have hz2 : w2.heap.size = w1.heap.size := by subst h2; show (((w1.setCell _ _).setCell _ _).setCell _ _).heap.size = _; simp
  have hbk : ∀ i, i < wr.heap.size → w1.heap[i]? = wr.heap[i]? := fun i hi => hb.block i hi
  have rS : w1.rowIs Q 32 (m * 2) (scell f se k) := h.rowS.of_block (hbk _ (by omega))
  have rB : w1.rowIs (Q + 1) 26 m (ccell f k) := h.rowB.of_block (hbk _ (by omega))
  have ho : ∀ i, Q + 2 ≤ i → w2.heap[i]? = w1.heap[i]? := fun i hi => by
    subst h2
    show (((w1.setCell _ _).setCell _ _).setCell _ _).heap[i]? = _
    rw [Below.heap_setCell _ _ _ _ (by show i ≠ Q; omega), Below.heap_setCell _ _ _ _ (by show i ≠ Q; omega), Below.heap_setCell _ _ _ _ (by show i ≠ Q + 1; omega)]
  refine ⟨?_, by omega, ?_, ?_, ?_⟩
  · subst h2
    exact (((h.below.trans (hb.mono (by omega))).setCell (p := ⟨Q + 1, k, none⟩) (by show Q ≤ Q + 1; omega) _).setCell (p := ⟨Q, k * 2, none⟩) (Nat.le_refl _) _).setCell (p := ⟨Q, k * 2 + 1, none⟩) (Nat.le_refl _) _ |>.drew
  · subst h2
    exact (((rS.setOther (a := ⟨Q + 1, k, none⟩) (by show Q ≠ Q + 1; omega) _).set (k * 2) _).set (k * 2 + 1) _).congr (fun j _ => scell_next f se k b j) |>.drew
  · subst h2
    exact (((rB.set k (.pointer (some ⟨b, 0, none⟩))).congr (fun j _ => ccell_next f k b j)).setOther (a := ⟨Q, k * 2, none⟩) (by show Q + 1 ≠ Q; omega) _).setOther (a := ⟨Q, k * 2 + 1, none⟩) (by show Q + 1 ≠ Q; omega) _ |>.drew
  · intro j hj
    by_cases e : j = k
    · subst e
      have : upd f j b j = b := by simp [upd]
      rw [this, hz2]
      exact (hbig.low hs).keep (fun i h1 _ => ho i h1)
    · have : upd f k b j = f j := by simp [upd, e]
      rw [this]
      have hB := h.big j (by omega)
      refine ((hB.keep (W' := w2) (fun i h1 h3 => ?_))).wide (by omega)
      rw [ho i h1, hbk i h3]

/-- A pointer against itself. -/
theorem equalIn_ptr (a : Option Addr) (d : Nat) (w : World) : (Op.equalIn (d + 1) 26 (.pointer a) (.pointer a)).run Yba.prog w = .ok true w := by
  have hi : ∃ i, Yba.prog.info? 45 = some i ∧ i.size ≠ 0 := by
    have h : (Yba.prog.info? 45).map (fun i => decide (i.size = 0)) = some false := by kernel_rfl
    obtain ⟨i, hi, hz⟩ := Option.map_eq_some_iff.1 h
    exact ⟨i, hi, by simpa using hz⟩
  obtain ⟨i, hi, hz⟩ := hi
  cases a with
  | none => simp [Op.equalIn, run_underlying Yba.underlying26]
  | some a => simp [Op.equalIn, run_underlying Yba.underlying26, sizeOf, typeInfo, hi, hz, sameAddr]
theorem neq_ptr (a : Option Addr) (w : World) : (binOp .neq 26 (.pointer a) (.pointer a)).run Yba.prog w = .ok (.bool false) w := by
  simp only [binOp]
  simp [Op.equal, Op.maxDepth, equalIn_ptr a 9999 w]

/-- Int64 inside a region that draws. -/
theorem int64_q (lo hi b : Nat) (x : Int) (w : World) (n : Nat) (h : Big w lo hi b x) : Calls Yba.prog 6 #[.pointer (some ⟨b, 0, none⟩)] (w.drewN n) fun e w'' => e = .returned (.int .i64 x) ∧ ∃ m, w'' = w.drewN m :=
  (int64 lo hi b x (w.drewN n) h).mono fun _ _ ⟨h1, h2⟩ => ⟨h1, n, h2.symm⟩

theorem int64_q2 (lo hi b : Nat) (x : Int) (w : World) (c n : Nat) (h : Big w lo hi b x) : Calls Yba.prog 6 #[.pointer (some ⟨b, 0, none⟩)] (w.drewN (c + n)) fun e w'' => e = .returned (.int .i64 x) ∧ ∃ m, w'' = w.drewN (c + m) :=
  (int64 lo hi b x (w.drewN (c + n)) h).mono fun _ _ ⟨h1, h2⟩ => ⟨h1, n, h2.symm⟩

/-- push on a sum whose terms are an own row. -/
theorem push_any (S T n e : Nat) (cp : Option Addr) (sig refs : Int) (g : Nat → Value) (s2 s3 s4 : Value) (w : World) (hn : n ≤ 1048576)
    (hS : w.heap[S]? = some (.cells #[.slice (some ⟨T, 0, none⟩) n (n + e), .int .i64 refs, s2, s3, s4] 35 (0, 0))) (hT : w.rowIs T 29 ((n + e) * 2) g) (hST : S ≠ T) :
    Calls Yba.prog 5 #[.pointer (some ⟨S, 0, none⟩), .agg #[.pointer cp, .int .i64 sig]] w fun e w' => e = .returned (.tuple #[]) ∧ Pushed S T n cp sig refs w w' := by
  have hs : S < w.heap.size := lt_of_cell (a := ⟨S, 0, none⟩) (cell_of hS rfl)
  have ht := hT.lt
  by_cases he : e = 0
  · subst he
    refine push_grow S T n cp sig refs ((List.range (n * 2)).map g) w (by omega) (cell_of hS rfl) (cell_of hS rfl) (frozen_of hS) (by simp) (fun j u hj => ?_) hs ht (Ne.symm hST)
    simp only [List.getElem?_map, Option.map_eq_some_iff, List.getElem?_eq_some_iff, List.length_range, List.getElem_range] at hj
    obtain ⟨k, ⟨hk, rfl⟩, rfl⟩ := hj
    exact hT.cell (by omega)
  · exact push_room S T n (n + e) cp sig refs _ _ w (by omega) (cell_of hS rfl) (cell_of hS rfl) (frozen_of hS) (hT.cell (by omega)) (hT.cell (by omega)) hT.frozen hST (Ne.symm hST) hs ht

/-- Behind push: all that the law's two last loops read. -/
structure Fin (B Q S n m T cap : Nat) (f f2 : Nat → Nat) (sig cf se : Nat → Int) (cp : Option Addr) (tsig refs gr wd tco : Int) (w wx : World) : Prop where
  below : Below B w wx
  s0 : wx.cell? ⟨S, 0, none⟩ = some (.slice (some ⟨T, 0, none⟩) (n + 1) cap)
  s1 : wx.cell? ⟨S, 1, none⟩ = some (.int .i64 refs)
  s2 : wx.cell? ⟨S, 2, none⟩ = some (.slice (some ⟨Q, 0, none⟩) m m)
  s3 : wx.cell? ⟨S, 3, none⟩ = some (.int .i64 gr)
  s4 : wx.cell? ⟨S, 4, none⟩ = some (.int .i64 wd)
  p0 : ∀ j, j < n → wx.cell? ⟨T, j * 2, none⟩ = some (.pointer (some ⟨f j, 0, none⟩))
  p1 : ∀ j, j < n → wx.cell? ⟨T, j * 2 + 1, none⟩ = some (.int .i64 (sig j))
  n0 : wx.cell? ⟨T, n * 2, none⟩ = some (.pointer cp)
  n1 : wx.cell? ⟨T, n * 2 + 1, none⟩ = some (.int .i64 tsig)
  t0 : ∀ j, j < n → wx.cell? ⟨B, j * 2, none⟩ = some (.pointer (some ⟨f j, 0, none⟩))
  t1 : ∀ j, j < n → wx.cell? ⟨B, j * 2 + 1, none⟩ = some (.int .i64 (sig j))
  c : ∀ j, j < n → wx.cell? ⟨B + 1, j, none⟩ = some (.pointer (some ⟨f j, 0, none⟩))
  v : ∀ j, j < n → wx.cell? ⟨B + 2, j, none⟩ = some (.int .i64 (cf j))
  big : ∀ j, j < n → ∃ lo hi, Big wx lo hi (f j) (cf j)
  q0 : ∀ j, j < m → wx.cell? ⟨Q, j * 2, none⟩ = some (.int .i64 (se j))
  q1 : ∀ j, j < m → wx.cell? ⟨Q, j * 2 + 1, none⟩ = some (.pointer (some ⟨f2 j, 0, none⟩))
  y : ∀ j, j < m → wx.cell? ⟨Q + 1, j, none⟩ = some (.pointer (some ⟨f2 j, 0, none⟩))
  big2 : ∀ j, j < m → ∃ lo hi, Big wx lo hi (f2 j) ((j : Int) + 2)
  tc : ∀ b, cp = some ⟨b, 0, none⟩ → ∃ lo hi, Big wx lo hi b tco

theorem Fin.drewN {B Q S n m T cap : Nat} {f f2 : Nat → Nat} {sig cf se : Nat → Int} {cp : Option Addr} {tsig refs gr wd tco : Int} {w wx : World} (h : Fin B Q S n m T cap f f2 sig cf se cp tsig refs gr wd tco w wx) (q : Nat) :
    Fin B Q S n m T cap f f2 sig cf se cp tsig refs gr wd tco w (wx.drewN q) :=
  ⟨below_drewN h.below q, h.s0, h.s1, h.s2, h.s3, h.s4, h.p0, h.p1, h.n0, h.n1, h.t0, h.t1, h.c, h.v, h.big, h.q0, h.q1, h.y, h.big2, h.tc⟩

/-- What holds behind the two first loops, the sum's making and (perhaps) one more big integer, and push. -/
theorem fin_of {n m e : Nat} {f f2 : Nat → Nat} {sig cf se : Nat → Int} {cp : Option Addr} {tsig refs gr wd tco : Int} {w wA wB wx wp : World}
    (h1 : L1 w.heap.size n e f sig cf n w wA) (h2 : L2 wA.heap.size m f2 se m wA wB)
    (hb : Below (wB.heap.size + 1) (wB.alloc (.cells #[.slice (some ⟨w.heap.size, 0, none⟩) n (n + e), .int .i64 refs, .slice (some ⟨wA.heap.size, 0, none⟩) m m, .int .i64 gr, .int .i64 wd] 35)) wx)
    (htc : ∀ b, cp = some ⟨b, 0, none⟩ → Big wx (wB.heap.size + 1) wx.heap.size b tco)
    (hP : Pushed wB.heap.size w.heap.size n cp tsig refs wx wp) :
    ∃ T cap, Fin w.heap.size wA.heap.size wB.heap.size n m T cap f f2 sig cf se cp tsig (if tsig < 0 then wrap64 (refs + 1) else refs) gr wd tco w wp := by
  have z1 := h1.size
  have z2 := h2.size
  have z3 : wB.heap.size + 1 ≤ wx.heap.size := by have := hb.size; simpa using this
  have bB : ∀ i, i < wA.heap.size → wB.heap[i]? = wA.heap[i]? := fun i hi => h2.below.block i hi
  have bx : ∀ i, i < wB.heap.size → wx.heap[i]? = wB.heap[i]? := fun i hi => (hb.block i (by omega)).trans (Below.heap_alloc _ _ _ hi)
  have hS : wx.heap[wB.heap.size]? = some (.cells #[.slice (some ⟨w.heap.size, 0, none⟩) n (n + e), .int .i64 refs, .slice (some ⟨wA.heap.size, 0, none⟩) m m, .int .i64 gr, .int .i64 wd] 35) := (hb.block _ (by omega)).trans (heap_alloc_new _ _)
  have po := hP.other
  have rT : wx.rowIs w.heap.size 29 ((n + e) * 2) (tcell f sig n) := (h1.rowT.of_block (bB _ (by omega))).of_block (bx _ (by omega))
  have rC : wp.rowIs (w.heap.size + 1) 26 n (ccell f n) := ((h1.rowC.of_block (bB _ (by omega))).of_block (bx _ (by omega))).of_block (po _ (by omega) (by omega) (by omega))
  have rV : wp.rowIs (w.heap.size + 2) 2 n (vcell cf n) := ((h1.rowV.of_block (bB _ (by omega))).of_block (bx _ (by omega))).of_block (po _ (by omega) (by omega) (by omega))
  have rS : wp.rowIs wA.heap.size 32 (m * 2) (scell f2 se m) := (h2.rowS.of_block (bx _ (by omega))).of_block (po _ (by omega) (by omega) (by omega))
  have rB : wp.rowIs (wA.heap.size + 1) 26 m (ccell f2 m) := (h2.rowB.of_block (bx _ (by omega))).of_block (po _ (by omega) (by omega) (by omega))
  obtain ⟨T, cap, g0, gold, gn0, gn1⟩ := hP.s0
  have tE : ∀ j, j < n → wx.cell? ⟨w.heap.size, j * 2, none⟩ = some (.pointer (some ⟨f j, 0, none⟩)) := fun j hj => by rw [rT.cell (by omega), tcell_even _ _ _ _ hj]
  have tO : ∀ j, j < n → wx.cell? ⟨w.heap.size, j * 2 + 1, none⟩ = some (.int .i64 (sig j)) := fun j hj => by rw [rT.cell (by omega), tcell_odd _ _ _ _ hj]
  refine ⟨T, cap, ?_, g0, hP.s1, (hP.s2 2 (by omega)).trans (cell_of hS rfl), (hP.s2 3 (by omega)).trans (cell_of hS rfl), (hP.s2 4 (by omega)).trans (cell_of hS rfl),
    fun j hj => gold _ _ (by omega) (tE j hj), fun j hj => gold _ _ (by omega) (tO j hj), gn0, gn1, fun j hj => (hP.told _ (by omega)).trans (tE j hj), fun j hj => (hP.told _ (by omega)).trans (tO j hj),
    fun j hj => by rw [rC.cell hj]; simp [ccell, hj], fun j hj => by rw [rV.cell hj]; simp [vcell, hj], fun j hj => ⟨_, _, (h1.big j hj).keep fun i i1 i2 => ?_⟩,
    fun j hj => by rw [rS.cell (by omega), scell_even _ _ _ _ hj], fun j hj => by rw [rS.cell (by omega), scell_odd _ _ _ _ hj], fun j hj => by rw [rB.cell hj]; simp [ccell, hj],
    fun j hj => ⟨_, _, (h2.big j hj).keep fun i i1 i2 => ?_⟩, fun b hbp => ?_⟩
  · have e1 : Below w.heap.size w wB := h1.below.trans (h2.below.mono (by omega))
    have e2 : Below w.heap.size w wx := (e1.alloc (by omega) _).trans (hb.mono (by omega))
    exact e2.trans (hP.below _ (by omega) (Nat.le_refl _) (by omega))
  · rw [po i (by omega) (by omega) (by omega), bx i (by omega), bB i i2]
  · rw [po i (by omega) (by omega) (by omega), bx i (by omega)]
  · exact ⟨_, _, (htc b hbp).keep fun i i1 i2 => po i i2 (by omega) (by omega)⟩
end Go.Proofs.Ybulkdxzc
