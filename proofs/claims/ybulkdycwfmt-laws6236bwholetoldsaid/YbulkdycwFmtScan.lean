/- The nodes' positions; a node's row: the plain side. -/
import Derived.Test.YbulkdycwFmtPNode
namespace Go.Proofs.YbulkdycwFmt
open Go.RowKit
set_option linter.unusedSimpArgs false
set_option linter.unusedVariables false

/-- The octets of the node at pos. -/
def need (T : Nat) (dv : Nat → Int) (pos : Nat) : Nat := 4 * units T 24 + if tbit T 22 = true then 4 + 4 * (dv (pos + 4 * units T 24)).toNat else 0
def bad (L T : Nat) (dv : Nat → Int) (pos : Nat) : Prop := (units T 24 = 0 ∧ tbit T 22 = false) ∨ (tbit T 22 = true ∧ L - pos ≤ 4 * units T 24) ∨ L - pos < need T dv pos
/-- From pos on the nodes lie at ps; b: the data is refused behind them. -/
def Scan (L T : Nat) (dv : Nat → Int) : Nat → List Nat → Bool → Prop
  | pos, [], b => (b = false ∧ L ≤ pos) ∨ (b = true ∧ pos < L ∧ bad L T dv pos)
  | pos, q :: ps, b => q = pos ∧ pos < L ∧ ¬ bad L T dv pos ∧ Scan L T dv (pos + need T dv pos) ps b
theorem Scan.same {L T : Nat} {dv : Nat → Int} : ∀ {pos : Nat} {ps ps' : List Nat} {b b' : Bool}, Scan L T dv pos ps b → Scan L T dv pos ps' b' → ps = ps' ∧ b = b'
  | pos, [], [], b, b', h, h' => by
    rcases h with ⟨rfl, h⟩ | ⟨rfl, h, hb⟩ <;> rcases h' with ⟨rfl, h'⟩ | ⟨rfl, h', hb'⟩
    · exact ⟨rfl, rfl⟩
    · omega
    · omega
    · exact ⟨rfl, rfl⟩
  | pos, [], q :: ps', b, b', h, h' => by
    obtain ⟨_, h1, h2, _⟩ := h'
    rcases h with ⟨rfl, h⟩ | ⟨rfl, h, hb⟩
    · omega
    · exact absurd hb h2
  | pos, q :: ps, [], b, b', h, h' => by
    obtain ⟨_, h1, h2, _⟩ := h
    rcases h' with ⟨rfl, h'⟩ | ⟨rfl, h', hb⟩
    · omega
    · exact absurd hb h2
  | pos, q :: ps, q' :: ps', b, b', h, h' => by
    obtain ⟨rfl, _, _, h⟩ := h
    obtain ⟨rfl, _, _, h'⟩ := h'
    obtain ⟨rfl, rfl⟩ := Scan.same h h'
    exact ⟨rfl, rfl⟩

/-- Field i of the node at p. -/
def fval (T : Nat) (dv : Nat → Int) (p i : Nat) : Int := if tbit T (fbit i) = true then be dv (p + ssum T i) (fsz i) else 0
def idv (T : Nat) (dv : Nat → Int) (p : Nat) : Int := if tbit T 22 = true then be dv (p + 4 * units T 24 + 1) 3 else 0

theorem frow_out (cur : Array Value) (o T : Nat) (dv : Nat → Int) (p : Nat) : ∀ (k j : Nat), k ≤ 16 → (j < o ∨ o + k ≤ j) → (frow cur o T dv p k)[j]? = cur[j]?
  | 0, j, _, _ => rfl
  | k + 1, j, hk, hj => by
    rw [frow]
    have ih := frow_out cur o T dv p k j (by omega) (by omega)
    split
    · rw [Array.getElem?_setIfInBounds_ne (by omega)]; exact ih
    · exact ih
theorem frow_in (cur : Array Value) (o T : Nat) (dv : Nat → Int) (p : Nat) (hz : ∀ i, i < 16 → cur[o + i]? = some (.int .u64 0)) : ∀ (k i : Nat), i < k → k ≤ 16 → (frow cur o T dv p k)[o + i]? = some (.int .u64 (fval T dv p i))
  | 0, i, h, _ => by omega
  | k + 1, i, hi, hk => by
    rw [frow]
    by_cases he : i = k
    · subst he
      unfold fval
      split
      · have hlt : o + i < (frow cur o T dv p i).size := by
          rw [frow_size]
          exact (Array.getElem?_eq_some_iff.1 (hz i (by omega))).1
        simp [hlt]
      · rw [frow_out cur o T dv p i (o + i) (by omega) (by omega)]; exact hz i (by omega)
    · have ih := frow_in cur o T dv p hz k i (by omega) (by omega)
      split
      · rw [Array.getElem?_setIfInBounds_ne (by omega)]; exact ih
      · exact ih
theorem setAll_out (vs : List Value) : ∀ (cs : Array Value) (o j : Nat), (j < o ∨ o + vs.length ≤ j) → (setAll cs o vs)[j]? = cs[j]? := by
  induction vs with
  | nil => intro cs o j _; rfl
  | cons v r ih =>
    intro cs o j hj
    simp at hj
    rw [setAll, ih _ _ _ (by omega), Array.getElem?_setIfInBounds_ne (by omega)]
theorem setAll_in (vs : List Value) : ∀ (cs : Array Value) (o i : Nat) (v : Value), vs[i]? = some v → o + vs.length ≤ cs.size → (setAll cs o vs)[o + i]? = some v := by
  induction vs with
  | nil => intro cs o i v h _; simp at h
  | cons u r ih =>
    intro cs o i v h hs
    simp at hs
    rw [setAll]
    cases i with
    | zero =>
      simp at h
      subst h
      rw [setAll_out r _ _ _ (by omega), Nat.add_zero]
      have : o < cs.size := by omega
      simp [this]
    | succ i =>
      simp at h
      rw [show o + (i + 1) = o + 1 + i by omega]
      exact ih _ _ i v h (by simp; omega)

/-- The node's nineteen cells behind parseNode; the others stay. -/
theorem nrow_out (cur : Array Value) (o T : Nat) (dv : Nat → Int) (p ps : Nat) (sv U' : Value) (j : Nat) (hj : j < o ∨ o + 19 ≤ j) : (nrow cur o T dv p ps sv U')[j]? = cur[j]? := by
  have h : (frow (setAll cur o z19.toList) o T dv p 16)[j]? = cur[j]? := by
    rw [frow_out _ o T dv p 16 j (Nat.le_refl _) (by omega), setAll_out _ _ _ _ (by simpa using hj)]
  unfold nrow
  split
  · rw [Array.getElem?_setIfInBounds_ne (by omega), Array.getElem?_setIfInBounds_ne (by omega), Array.getElem?_setIfInBounds_ne (by omega)]; exact h
  · rw [Array.getElem?_setIfInBounds_ne (by omega)]; exact h
theorem nrow_size (cur : Array Value) (o T : Nat) (dv : Nat → Int) (p ps : Nat) (sv U' : Value) : (nrow cur o T dv p ps sv U').size = cur.size := by
  unfold nrow
  split <;> simp [frow_size, setAll_size]
theorem nrow_field (cur : Array Value) (o T : Nat) (dv : Nat → Int) (p ps : Nat) (sv U' : Value) (ho : o + 19 ≤ cur.size) (i : Nat) (hi : i < 16) : (nrow cur o T dv p ps sv U')[o + i]? = some (.int .u64 (fval T dv p i)) := by
  have hz : ∀ i, i < 16 → (setAll cur o z19.toList)[o + i]? = some (.int .u64 0) := fun i hi => setAll_in _ _ _ i _ (by
    have : ∀ j : Fin 16, z19.toList[j.val]? = some (.int .u64 0) := by intro j; match j with | ⟨0, _⟩ => rfl | ⟨1, _⟩ => rfl | ⟨2, _⟩ => rfl | ⟨3, _⟩ => rfl | ⟨4, _⟩ => rfl | ⟨5, _⟩ => rfl | ⟨6, _⟩ => rfl | ⟨7, _⟩ => rfl | ⟨8, _⟩ => rfl | ⟨9, _⟩ => rfl | ⟨10, _⟩ => rfl | ⟨11, _⟩ => rfl | ⟨12, _⟩ => rfl | ⟨13, _⟩ => rfl | ⟨14, _⟩ => rfl | ⟨15, _⟩ => rfl | ⟨k + 16, h⟩ => exact absurd h (by omega)
    exact this ⟨i, hi⟩) (by simpa using ho)
  have h := frow_in _ o T dv p hz 16 i hi (Nat.le_refl _)
  unfold nrow
  split
  · rw [Array.getElem?_setIfInBounds_ne (by omega), Array.getElem?_setIfInBounds_ne (by omega), Array.getElem?_setIfInBounds_ne (by omega)]; exact h
  · rw [Array.getElem?_setIfInBounds_ne (by omega)]; exact h
theorem nrow_u (cur : Array Value) (o T : Nat) (dv : Nat → Int) (p ps : Nat) (sv U' : Value) (ho : o + 19 ≤ cur.size) : (nrow cur o T dv p ps sv U')[o + 16]? = some U' := by
  have hs : o + 16 < (frow (setAll cur o z19.toList) o T dv p 16).size := by rw [frow_size, setAll_size]; omega
  unfold nrow
  split
  · rw [Array.getElem?_setIfInBounds_ne (by omega), Array.getElem?_setIfInBounds_ne (by omega)]; simp [hs]
  · simp [hs]
theorem nrow_id (cur : Array Value) (o T : Nat) (dv : Nat → Int) (p ps : Nat) (sv U' : Value) (ho : o + 19 ≤ cur.size) : (nrow cur o T dv p ps sv U')[o + 17]? = some (.int .u32 (if tbit T 22 = true then be dv (ps + 1) 3 else 0)) ∧ (nrow cur o T dv p ps sv U')[o + 18]? = some (if tbit T 22 = true then sv else .slice none 0 0) := by
  have hs : ∀ i, i < 19 → o + i < (frow (setAll cur o z19.toList) o T dv p 16).size := fun i hi => by rw [frow_size, setAll_size]; omega
  have h17 : (frow (setAll cur o z19.toList) o T dv p 16)[o + 17]? = some (.int .u32 0) := by
    rw [frow_out _ o T dv p 16 (o + 17) (Nat.le_refl _) (by omega)]; exact setAll_in _ _ _ 17 _ rfl (by simpa using ho)
  have h18 : (frow (setAll cur o z19.toList) o T dv p 16)[o + 18]? = some (.slice none 0 0) := by
    rw [frow_out _ o T dv p 16 (o + 18) (Nat.le_refl _) (by omega)]; exact setAll_in _ _ _ 18 _ rfl (by simpa using ho)
  have s17 := hs 17 (by omega)
  have s18 := hs 18 (by omega)
  unfold nrow
  by_cases h : tbit T 22 = true
  · rw [if_pos h, if_pos h, if_pos h]
    constructor
    · rw [Array.getElem?_setIfInBounds_ne (by omega)]; simp [s17]
    · simp [s18]
  · rw [if_neg h, if_neg h, if_neg h]
    constructor
    · rw [Array.getElem?_setIfInBounds_ne (by omega)]; exact h17
    · rw [Array.getElem?_setIfInBounds_ne (by omega)]; exact h18

/-- The node at p lies in the nineteen cells from o on. -/
structure NodeAt (w : World) (B0 : Nat) (cur : Array Value) (o T : Nat) (dv : Nat → Int) (p : Nat) : Prop where
  fields : ∀ i, i < 16 → cur[o + i]? = some (.int .u64 (fval T dv p i))
  und : ∃ U, cur[o + 16]? = some U ∧ w.ownsRow B0 23 1 U (und T dv (p + ssum T 16) 10).length ((und T dv (p + ssum T 16) 10).map (Value.int .u32))
  id : cur[o + 17]? = some (.int .u32 (idv T dv p))
  data : ∃ (a : Option Addr) (c : Nat), cur[o + 18]? = some (.slice a (need T dv p - 4 * units T 24 - 4) c) ∧ OBs w a (need T dv p - 4 * units T 24 - 4) dv (p + 4 * units T 24 + 4) ∧ ∀ ad, a = some ad → ad.block < B0

/-- The nodes at ps, in the row at block Tb of C nodes; the undefined fields' rows all apart. -/
structure RN (w : World) (B0 tb Tb C : Nat) (cur : Array Value) (T : Nat) (dv : Nat → Int) (ps : List Nat) : Prop where
  row : w.heap[Tb]? = some (.cells cur 34 (0, 0))
  size : cur.size = C * 19
  cap : C ≤ maxLen
  base : B0 ≤ Tb
  ne : tb ≠ Tb
  len : ps.length ≤ C
  und : ∀ j, j < C → ∃ U l xs, cur[j * 19 + 16]? = some U ∧ w.ownsRow B0 23 1 U l xs ∧ U.ownBlock ≠ some Tb ∧ U.ownBlock ≠ some tb
  apart : ∀ i j U V, i < C → j < C → i ≠ j → cur[i * 19 + 16]? = some U → cur[j * 19 + 16]? = some V → ∀ g, U.ownBlock = some g → V.ownBlock ≠ some g
  nodes : ∀ j p, ps[j]? = some p → NodeAt w B0 cur (j * 19) T dv p

/-- Blocks below B0, the row and the undefined fields' rows lie as they lay: so do the nodes. -/
theorem NodeAt.keep {w w' : World} {B0 : Nat} {cur : Array Value} {o T : Nat} {dv : Nat → Int} {p : Nat} (h : NodeAt w B0 cur o T dv p) (hb : Below B0 w w') (hu : ∀ U g, cur[o + 16]? = some U → U.ownBlock = some g → w'.heap[g]? = w.heap[g]?) : NodeAt w' B0 cur o T dv p := by
  obtain ⟨U, h1, h2⟩ := h.und
  obtain ⟨a, c, h3, h4, h5⟩ := h.data
  refine ⟨h.fields, ⟨U, h1, own_of_block h2 (fun g hg => hu U g h1 hg)⟩, h.id, a, c, h3, fun hn => ?_, h5⟩
  obtain ⟨ad, rfl, hbs⟩ := h4 hn
  exact ⟨ad, rfl, fun i hi => (hb.cell (by rw [add_block]; exact h5 ad rfl)).trans (hbs i hi)⟩
theorem RN.keep {w w' : World} {B0 tb Tb C : Nat} {cur : Array Value} {T : Nat} {dv : Nat → Int} {ps : List Nat} (h : RN w B0 tb Tb C cur T dv ps) (hb : Below B0 w w') (hk : ∀ g, B0 ≤ g → g < w.heap.size → g ≠ tb → w'.heap[g]? = w.heap[g]?) : RN w' B0 tb Tb C cur T dv ps := by
  have hTs : Tb < w.heap.size := (Array.getElem?_eq_some_iff.1 h.row).1
  have hu : ∀ j U g, j < C → cur[j * 19 + 16]? = some U → U.ownBlock = some g → w'.heap[g]? = w.heap[g]? := fun j U g hj hU hg => by
    obtain ⟨U', l, xs, h1, h2, h3, h4⟩ := h.und j hj
    obtain rfl := Option.some.inj (h1.symm.trans hU)
    have := h2.lt g hg
    exact hk g this.1 this.2 (fun e => h4 (by rw [hg, e]))
  refine ⟨(hk Tb h.base hTs (Ne.symm h.ne)).trans h.row, h.size, h.cap, h.base, h.ne, h.len, fun j hj => ?_, h.apart, fun j p hp => ?_⟩
  · obtain ⟨U, l, xs, h1, h2, h3, h4⟩ := h.und j hj
    exact ⟨U, l, xs, h1, own_of_block h2 (fun g hg => hu j U g hj h1 hg), h3, h4⟩
  · have hj : j < C := by
      have := (List.getElem?_eq_some_iff.1 hp).1
      have := h.len
      omega
    exact (h.nodes j p hp).keep hb (fun U g hU hg => hu j U g hj hU hg)
end Go.Proofs.YbulkdycwFmt
