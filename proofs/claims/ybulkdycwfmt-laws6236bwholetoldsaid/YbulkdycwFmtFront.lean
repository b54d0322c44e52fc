/- The law: the small laws of its walk. -/
import Derived.Test.YbulkdycwFmtMState
import Derived.Laws.CopyOwn
import Derived.OwnWalk
namespace Go.Proofs.YbulkdycwFmt
open Go.RowKit
open Go.Extern.Stop Go.Stop Go.Extern
set_option linter.unusedSimpArgs false
set_option linter.unusedVariables false

theorem wraps_u8 (n : Int) (h₀ : 0 ≤ n) (h₁ : n < 2 ^ 8) : IntKind.u8.wrap n = n := by simp [IntKind.wrap, IntKind.bits, IntKind.signed]; omega
theorem and24 (y : Int) (h0 : 0 ≤ y) (h1 : y < 4294967296) : ∃ T : Nat, bits .and .u32 y 16777215 = (T : Int) ∧ T < 16777216 := by
  have h : bits .and .u32 y 16777215 = y % 16777216 := bits_mask .u32 32 (by decide) wraps_u32 24 (by decide) _ (by omega) (by omega)
  exact ⟨(y % 16777216).toNat, by omega, by omega⟩
theorem inf5 : (Ybaf.prog.info? 5).map (fun i => (i.zero, i.size, i.bytes)) = some (some (.int .u8 0), 1, 1) := by kernel_rfl

theorem made_at {m i : Nat} (h : i < m) : (madeCells #[.int .u8 0] m)[i]? = some (.int .u8 0) := by
  simp [madeCells, h, Nat.mod_one]
theorem inf5s : (Ybaf.prog.info? 5).map (·.size) = some 1 := by kernel_rfl
def eight (y0 y1 y2 y3 y4 y5 y6 y7 : Int) : Nat → Int
  | 0 => y0
  | 1 => y1
  | 2 => y2
  | 3 => y3
  | 4 => y4
  | 5 => y5
  | 6 => y6
  | 7 => y7
  | _ => 0
theorem eight_bytes {y0 y1 y2 y3 y4 y5 y6 y7 : Int} (h0 : 0 ≤ y0 ∧ y0 ≤ 255) (h1 : 0 ≤ y1 ∧ y1 ≤ 255) (h2 : 0 ≤ y2 ∧ y2 ≤ 255) (h3 : 0 ≤ y3 ∧ y3 ≤ 255) (h4 : 0 ≤ y4 ∧ y4 ≤ 255) (h5 : 0 ≤ y5 ∧ y5 ≤ 255) (h6 : 0 ≤ y6 ∧ y6 ≤ 255) (h7 : 0 ≤ y7 ∧ y7 ≤ 255) : Bytes (eight y0 y1 y2 y3 y4 y5 y6 y7) := by
  intro i
  match i with
  | 0 => exact h0
  | 1 => exact h1
  | 2 => exact h2
  | 3 => exact h3
  | 4 => exact h4
  | 5 => exact h5
  | 6 => exact h6
  | 7 => exact h7
  | i + 8 => exact ⟨Int.le_refl 0, by show (0 : Int) ≤ 255; omega⟩
/-- The header's octets in the row. -/
def row8 (M : Array Value) (hv : Nat → Int) : Array Value := (((((((M.setIfInBounds 0 (.int .u8 (hv 0))).setIfInBounds 1 (.int .u8 (hv 1))).setIfInBounds 2 (.int .u8 (hv 2))).setIfInBounds 3 (.int .u8 (hv 3))).setIfInBounds 4 (.int .u8 (hv 4))).setIfInBounds 5 (.int .u8 (hv 5))).setIfInBounds 6 (.int .u8 (hv 6))).setIfInBounds 7 (.int .u8 (hv 7))
theorem row8_size (M : Array Value) (hv : Nat → Int) : (row8 M hv).size = M.size := by simp [row8]
theorem row8_at (M : Array Value) (hv : Nat → Int) (hM : 8 ≤ M.size) (i : Nat) (hi : i < 8) : (row8 M hv)[i]? = some (.int .u8 (hv i)) := by
  unfold row8
  match i, hi with
  | 0, _ => rw [Array.getElem?_setIfInBounds_ne (by omega), Array.getElem?_setIfInBounds_ne (by omega), Array.getElem?_setIfInBounds_ne (by omega), Array.getElem?_setIfInBounds_ne (by omega), Array.getElem?_setIfInBounds_ne (by omega), Array.getElem?_setIfInBounds_ne (by omega), Array.getElem?_setIfInBounds_ne (by omega), Array.getElem?_setIfInBounds_self_of_lt (by omega)]
  | 1, _ => rw [Array.getElem?_setIfInBounds_ne (by omega), Array.getElem?_setIfInBounds_ne (by omega), Array.getElem?_setIfInBounds_ne (by omega), Array.getElem?_setIfInBounds_ne (by omega), Array.getElem?_setIfInBounds_ne (by omega), Array.getElem?_setIfInBounds_ne (by omega), Array.getElem?_setIfInBounds_self_of_lt (by simp; omega)]
  | 2, _ => rw [Array.getElem?_setIfInBounds_ne (by omega), Array.getElem?_setIfInBounds_ne (by omega), Array.getElem?_setIfInBounds_ne (by omega), Array.getElem?_setIfInBounds_ne (by omega), Array.getElem?_setIfInBounds_ne (by omega), Array.getElem?_setIfInBounds_self_of_lt (by simp; omega)]
  | 3, _ => rw [Array.getElem?_setIfInBounds_ne (by omega), Array.getElem?_setIfInBounds_ne (by omega), Array.getElem?_setIfInBounds_ne (by omega), Array.getElem?_setIfInBounds_ne (by omega), Array.getElem?_setIfInBounds_self_of_lt (by simp; omega)]
  | 4, _ => rw [Array.getElem?_setIfInBounds_ne (by omega), Array.getElem?_setIfInBounds_ne (by omega), Array.getElem?_setIfInBounds_ne (by omega), Array.getElem?_setIfInBounds_self_of_lt (by simp; omega)]
  | 5, _ => rw [Array.getElem?_setIfInBounds_ne (by omega), Array.getElem?_setIfInBounds_ne (by omega), Array.getElem?_setIfInBounds_self_of_lt (by simp; omega)]
  | 6, _ => rw [Array.getElem?_setIfInBounds_ne (by omega), Array.getElem?_setIfInBounds_self_of_lt (by simp; omega)]
  | 7, _ => rw [Array.getElem?_setIfInBounds_self_of_lt (by simp; omega)]
  | i + 8, h => exact absurd h (by omega)
theorem eight_step {N : Nat} {w : World} {M : Array Value} (hp : w.heap[N]? = some (.cells M 5 (0, 0))) (hv : Nat → Int) :
    BStep 5 N (row8 M hv) w ((((((((w.setCell ⟨N, 0, none⟩ (.int .u8 (hv 0))).setCell ⟨N, 1, none⟩ (.int .u8 (hv 1))).setCell ⟨N, 2, none⟩ (.int .u8 (hv 2))).setCell ⟨N, 3, none⟩ (.int .u8 (hv 3))).setCell ⟨N, 4, none⟩ (.int .u8 (hv 4))).setCell ⟨N, 5, none⟩ (.int .u8 (hv 5))).setCell ⟨N, 6, none⟩ (.int .u8 (hv 6))).setCell ⟨N, 7, none⟩ (.int .u8 (hv 7))) :=
  ((((((((BStep.refl hp).set 0 _).set 1 _).set 2 _).set 3 _).set 4 _).set 5 _).set 6 _).set 7 _
/-- A row of octets. -/
def brow (bv : Nat → Int) (n : Nat) : List Value := (List.range n).map fun i => .int .u8 (bv i)
theorem brow_length (bv : Nat → Int) (n : Nat) : (brow bv n).length = n := by simp [brow]
theorem brow_at {bv : Nat → Int} {n j : Nat} {v : Value} (h : (brow bv n)[j]? = some v) : j < n ∧ v = .int .u8 (bv j) := by
  have hj : j < n := by
    have := (List.getElem?_eq_some_iff.1 h).1
    rwa [brow_length] at this
  refine ⟨hj, ?_⟩
  simp [brow, hj] at h
  exact h.symm
theorem brow_get (bv : Nat → Int) {n j : Nat} (h : j < n) : (brow bv n)[j]? = some (.int .u8 (bv j)) := by simp [brow, h]
theorem brow_one (bv : Nat → Int) (n : Nat) : ∀ v ∈ brow bv n, v.oneCell' = true := by
  intro v hv
  simp [brow] at hv
  obtain ⟨i, _, rfl⟩ := hv
  simp [Value.oneCell']
def glue (hv bv : Nat → Int) (i : Nat) : Int := if i < 8 then hv i else bv (i - 8)
theorem glue_bytes {hv bv : Nat → Int} (h : Bytes hv) (h' : Bytes bv) : Bytes (glue hv bv) := by
  intro i
  unfold glue
  split
  · exact h i
  · exact h' _
theorem data_at {N n : Nat} {w : World} {M : Array Value} {hv bv : Nat → Int} (hM : M.size = 8 + n) (h : w.heap[N]? = some (.cells (splice (row8 M hv).toList 8 (brow bv n)).toArray 5 (0, 0))) : BsAt w ⟨N, 0, none⟩ (8 + n) (glue hv bv) 0 := by
  intro i hi
  have e : (⟨N, 0, none⟩ : Addr).add i = ⟨N, i, none⟩ := by unfold Addr.add; split <;> simp_all
  rw [e, Nat.zero_add]
  refine cell_of h ?_
  have hl : (row8 M hv).toList.length = 8 + n := by rw [Array.length_toList, row8_size, hM]
  simp only [List.getElem?_toArray]
  unfold splice glue
  by_cases h8 : i < 8
  · rw [if_pos h8, List.getElem?_append_left (by rw [List.length_take]; omega), List.getElem?_take_of_lt h8]
    have := row8_at M hv (by omega) i h8
    simpa using this
  · rw [if_neg h8, List.getElem?_append_right (by rw [List.length_take]; omega), List.length_take, hl, show min 8 (8 + n) = 8 by omega, List.getElem?_append_left (by rw [brow_length]; omega)]
    exact brow_get bv (by omega)

theorem orig_at {N m : Nat} {w : World} {M : Array Value} {dv : Nat → Int} (hM : M.size = m) (h : w.heap[N]? = some (.cells (splice M.toList 0 (brow dv m)).toArray 5 (0, 0))) : BsAt w ⟨N, 0, none⟩ m dv 0 := by
  intro i hi
  have e : (⟨N, 0, none⟩ : Addr).add i = ⟨N, i, none⟩ := by unfold Addr.add; split <;> simp_all
  rw [e, Nat.zero_add]
  refine cell_of h ?_
  simp only [List.getElem?_toArray]
  unfold splice
  rw [List.take_zero, List.nil_append, List.getElem?_append_left (by rw [brow_length]; omega)]
  exact brow_get dv hi
theorem copy_run (w w0 : World) (dp sp : Option Addr) (k dc sc g off B : Nat) (cur : Array Value) (t : TypeId) (hg : w.heap[g]? = some (.cells cur t (0, 0))) (bv : Nat → Int) (hpos : 0 < k → dp = some ⟨g, off, none⟩ ∧ ∃ ad, sp = some ad ∧ BsAt w ad k bv 0)
    (hfit : off + k ≤ cur.size) (hb : Below B w0 w) (hBg : B ≤ g) :
    ∃ w', (Builtin.copy_ #[24, 24] 3 #[.slice dp k dc, .slice sp k sc]).run Ybaf.prog w = .ok (.int .i64 k) w' ∧ w'.heap[g]? = some (.cells (splice cur.toList off (brow bv k)).toArray t (0, 0)) ∧ Below B w0 w' ∧ w'.heap.size = w.heap.size := by
  rcases Nat.eq_zero_or_pos k with h0 | h0
  · subst h0
    refine ⟨w, run_copy_none (P := Ybaf.prog) w 24 24 3 5 dp sp 0 dc 0 sc Ybaf.underlying24 inf5s rfl, ?_, hb, rfl⟩
    simpa [splice, brow] using hg
  · obtain ⟨rfl, ad, rfl, hbs⟩ := hpos h0
    have hrun := run_copy_row (P := Ybaf.prog) w 24 24 3 5 g off k dc ad k sc cur t (brow bv k) Ybaf.underlying24 inf5s hg (by rw [brow_length]; exact (Nat.min_self k).symm) (fun j v hj => by
      obtain ⟨hj', rfl⟩ := brow_at hj
      have := hbs j hj'
      rwa [Nat.zero_add] at this) (by rw [brow_length]; exact hfit) (brow_one bv k)
    rw [brow_length] at hrun
    refine ⟨_, hrun, ?_, below_setRow hb hBg _, by simp [World.setRow]⟩
    have := setRow_heap w g _ (cur.toList.take off ++ brow bv k ++ cur.toList.drop (off + k)).toArray t _ hg
    rw [this]
    simp [splice, brow_length]

theorem made19 {m j : Nat} (h : j < m) : (madeCells z19 (m * 19))[j * 19 + 16]? = some (.slice none 0 0) := by
  have hlt : j * 19 + 16 < m * 19 := by omega
  have he : (j * 19 + 16) % 19 = 16 := by omega
  have hsz : (z19 : Array Value).size = 19 := rfl
  simp [madeCells, hlt, hsz, he]
theorem rn_start {w : World} {B0 tb C : Nat} {dv : Nat → Int} (hs : w.heap.size = B0) (htb : tb ≠ B0) (hC : C ≤ maxLen) : RN (w.alloc (.cells (madeCells z19 (C * 19)) 34)) B0 tb B0 C (madeCells z19 (C * 19)) 0 dv [] := by
  refine ⟨new_at hs.symm, size_madeCells _ _, hC, Nat.le_refl _, htb, Nat.zero_le _, fun j hj => ⟨.slice none 0 0, 0, [], made19 hj, World.ownsRow_nil _ _ _ _, by simp [Value.ownBlock], by simp [Value.ownBlock]⟩, fun i j U V hi hj hij hU hV g hg => ?_, fun j p hp => by simp at hp⟩
  rw [made19 hi] at hU
  cases hU
  simp [Value.ownBlock] at hg

theorem rn_old {wr : World} {B0 N Nb C : Nat} {cur : Array Value} {dv : Nat → Int} (h : RN wr B0 N Nb C cur 0 dv []) (j : Nat) (hj : j < C) (hN : N < wr.heap.size) (v0 v2 v3 : Value) (o2 : Obj) {W : World}
    (hW : W = ((((((wr.setCell ⟨Nb, j * 19, none⟩ v0).setCell ⟨Nb, j * 19 + 16, none⟩ (.slice (some ⟨wr.heap.size, 0, none⟩) 3 3)).setCell ⟨Nb, j * 19 + 17, none⟩ v2).setCell ⟨Nb, j * 19 + 17 + 1, none⟩ v3).alloc (.cells #[.int .u32 7, .int .u32 8, .int .u32 9] 23)).alloc o2)) :
    ∃ cur', RN W B0 N Nb C cur' 0 dv [] ∧ Below B0 wr W := by
  have hst0 : BStep 34 Nb ((((cur.setIfInBounds (j * 19) v0).setIfInBounds (j * 19 + 16) (.slice (some ⟨wr.heap.size, 0, none⟩) 3 3)).setIfInBounds (j * 19 + 17) v2).setIfInBounds (j * 19 + 17 + 1) v3) wr ((((wr.setCell ⟨Nb, j * 19, none⟩ v0).setCell ⟨Nb, j * 19 + 16, none⟩ (.slice (some ⟨wr.heap.size, 0, none⟩) 3 3)).setCell ⟨Nb, j * 19 + 17, none⟩ v2).setCell ⟨Nb, j * 19 + 17 + 1, none⟩ v3) :=
    ((((BStep.refl h.row).set _ _).set _ _).set _ _).set _ _
  have hsz0 : ((((wr.setCell ⟨Nb, j * 19, none⟩ v0).setCell ⟨Nb, j * 19 + 16, none⟩ (.slice (some ⟨wr.heap.size, 0, none⟩) 3 3)).setCell ⟨Nb, j * 19 + 17, none⟩ v2).setCell ⟨Nb, j * 19 + 17 + 1, none⟩ v3).heap.size = wr.heap.size := by simp only [World.size_setCell]
  have hst : BStep 34 Nb ((((cur.setIfInBounds (j * 19) v0).setIfInBounds (j * 19 + 16) (.slice (some ⟨wr.heap.size, 0, none⟩) 3 3)).setIfInBounds (j * 19 + 17) v2).setIfInBounds (j * 19 + 17 + 1) v3) wr W := by
    rw [hW]
    exact (hst0.alloc _).alloc _
  have hnew : W.heap[wr.heap.size]? = some (.cells #[.int .u32 7, .int .u32 8, .int .u32 9] 23 (0, 0)) := by
    rw [hW, Below.heap_alloc _ _ _ (by rw [World.size_alloc, hsz0]; omega)]
    exact new_at hsz0.symm
  have hlt : Nb < wr.heap.size := (Array.getElem?_eq_some_iff.1 h.row).1
  have hs := h.size
  have hin : (j + 1) * 19 ≤ C * 19 := Nat.mul_le_mul_right _ hj
  generalize hcur : (((cur.setIfInBounds (j * 19) v0).setIfInBounds (j * 19 + 16) (.slice (some ⟨wr.heap.size, 0, none⟩) 3 3)).setIfInBounds (j * 19 + 17) v2).setIfInBounds (j * 19 + 17 + 1) v3 = cur' at hst
  have hout : ∀ i, i ≠ j → cur'[i * 19 + 16]? = cur[i * 19 + 16]? := fun i hi => by
    rw [← hcur, Array.getElem?_setIfInBounds_ne (by omega), Array.getElem?_setIfInBounds_ne (by omega), Array.getElem?_setIfInBounds_ne (by omega), Array.getElem?_setIfInBounds_ne (by omega)]
  have hhere : cur'[j * 19 + 16]? = some (.slice (some ⟨wr.heap.size, 0, none⟩) 3 3) := by
    rw [← hcur, Array.getElem?_setIfInBounds_ne (by omega), Array.getElem?_setIfInBounds_ne (by omega), Array.getElem?_setIfInBounds_self_of_lt (by simp; omega)]
  have hB : B0 ≤ wr.heap.size := by have := h.base; omega
  refine ⟨cur', ⟨hst.par, by rw [← hcur]; simpa using hs, h.cap, h.base, h.ne, h.len, fun i hi => ?_, fun i i' U V hi hi' hne hU hV g hg => ?_, fun i p hp => by simp at hp⟩, hst.below B0 h.base⟩
  · by_cases hij : i = j
    · subst hij
      refine ⟨_, 3, _, hhere, ⟨rfl, .inr ⟨wr.heap.size, 3, _, rfl, hB, hnew, Nat.le_refl _, by unfold maxLen; omega, rfl, rfl⟩⟩, ?_, ?_⟩
      · simp [Value.ownBlock]; omega
      · simp [Value.ownBlock]; omega
    · obtain ⟨U, l, xs, h1, h2, h3, h4⟩ := h.und i hi
      exact ⟨U, l, xs, (hout i hij).trans h1, own_of_block h2 (fun g hg => hst.other g (h2.lt g hg).2 (fun e => h3 (by rw [hg, e]))), h3, h4⟩
  · have hltU : ∀ i U g, i < C → cur[i * 19 + 16]? = some U → U.ownBlock = some g → g < wr.heap.size := fun i U g hi hU hg => by
      obtain ⟨U', l, xs, h1, h2, h3, h4⟩ := h.und i hi
      obtain rfl := Option.some.inj (h1.symm.trans hU)
      exact (h2.lt g hg).2
    by_cases hij : i = j
    · subst hij
      obtain rfl := Option.some.inj (hhere.symm.trans hU)
      rw [hout i' (Ne.symm hne)] at hV
      simp [Value.ownBlock] at hg
      intro e
      have := hltU i' V g hi' hV e
      omega
    · rw [hout i hij] at hU
      by_cases hij' : i' = j
      · subst hij'
        obtain rfl := Option.some.inj (hhere.symm.trans hV)
        have := hltU i U g hi hU hg
        simp [Value.ownBlock]
        omega
      · rw [hout i' hij'] at hV
        exact h.apart i i' U V hi hi' hne hU hV g hg

theorem RN.fresh {w : World} {B0 N Nb C : Nat} {cur : Array Value} {dv : Nat → Int} (h : RN w B0 N Nb C cur 0 dv []) (o : Obj) : RN (w.alloc o) B0 w.heap.size Nb C cur 0 dv [] := by
  have hb : Below w.heap.size w (w.alloc o) := (Below.refl _ _).alloc (Nat.le_refl _) o
  have hlt : Nb < w.heap.size := (Array.getElem?_eq_some_iff.1 h.row).1
  refine ⟨(hb.block Nb hlt).trans h.row, h.size, h.cap, h.base, by omega, h.len, fun j hj => ?_, h.apart, fun j p hp => by simp at hp⟩
  obtain ⟨U, l, xs, h1, h2, h3, h4⟩ := h.und j hj
  refine ⟨U, l, xs, h1, own_below h2 hb (Nat.le_refl _), h3, fun e => ?_⟩
  have := (h2.lt _ e).2
  omega
theorem MN.keep {w w' : World} {B : Nat} {V : Value} {xs : List Value} {T : Nat} {dv : Nat → Int} {ps : List Nat} (h : MN w B V xs T dv ps) (hb : Below w.heap.size w w') (hB : B ≤ w.heap.size) : MN w' B V xs T dv ps := by
  refine ⟨own_below h.own hb (Nat.le_refl _), fun j p hp => ?_⟩
  have hn := h.nodes j p hp
  obtain ⟨U, h1, h2⟩ := hn.und
  refine hn.keep (hb.mono hB) (fun U' g hU hg => ?_)
  obtain rfl := Option.some.inj (h1.symm.trans hU)
  exact hb.block g (h2.lt g hg).2
theorem scan_len {L T : Nat} {dv : Nat → Int} : ∀ {pos : Nat} {ps : List Nat} {b : Bool}, Scan L T dv pos ps b → ps.length * 4 ≤ L
  | pos, ps, b, h => by
    have key : ∀ (ps : List Nat) (pos : Nat), Scan L T dv pos ps b → ps = [] ∨ ps.length * 4 + pos ≤ L := by
      intro ps
      induction ps with
      | nil => intro pos _; exact .inl rfl
      | cons q ps ih =>
        intro pos h
        obtain ⟨_, h1, h2, h3⟩ := h
        have hn := need_ge h2
        right
        rcases ih _ h3 with rfl | h4
        · simp; omega
        · simp at h4 ⊢; omega
    rcases key ps pos h with rfl | h'
    · simp
    · omega
theorem says_len {dv : Nat → Int} {n : Nat} {ps : List Nat} {b : Bool} (h : Says dv n ps b) : ps.length * 4 ≤ n := by
  rcases h with ⟨_, rfl, _⟩ | ⟨_, h⟩
  · simp
  · exact scan_len h
theorem POut.value {w w' : World} {B0 tb : Nat} {dv : Nat → Int} {n : Nat} {e : Ending} (h : POut w w' B0 tb dv n e) : ∃ v, e = .returned v := by
  obtain ⟨ps, b, Tb, C, cur, h1, h2, _⟩ := h
  split at h2
  · obtain ⟨t, x, h2⟩ := h2; exact ⟨_, h2⟩
  · exact ⟨_, h2⟩
end Go.Proofs.YbulkdycwFmt
