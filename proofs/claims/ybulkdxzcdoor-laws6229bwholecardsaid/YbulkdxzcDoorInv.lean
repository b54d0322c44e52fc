/- ReadAll's invariant, step by step; no walk. -/
import Derived.Test.YbulkdxzcDoorParts
import Derived.Deep.RegionWith
namespace Go.Proofs.YbulkdxzcDoor
open Go.RowKit
set_option linter.unusedSimpArgs false
set_option linter.unusedVariables false

theorem nil_ahead (d : Nat) (a : Addr) (w : World) : (nilAhead (d + 1) 27 (.pointer (some a)) "Read").run Ybad.prog w = .ok (some false) w := by kernel_rfl
theorem method_read (d : Nat) (a : Addr) (w : World) : (method (d + 1) 27 (.pointer (some a)) "Read").run Ybad.prog w = .ok (24, .pointer (some a)) w := by kernel_rfl

/-- At the head of ReadAll's round. -/
structure RA (B R n g cap len nx fs : Nat) (v6 : Value) (C : List (Nat × Nat × Nat)) (rc : Nat → Array Value) (dv : Nat → Int) (w wr : World) : Prop where
  rd : wr.heap[R]? = some (.cells (rc (fs + len)) 29 (0, 0))
  other : ∀ i, i < B → i ≠ R → wr.heap[i]? = w.heap[i]?
  below : ∀ B', B' ≤ R → B' ≤ B → Below B' w wr
  gB : B ≤ g
  row : ∃ cur : List Value, wr.heap[g]? = some (.cells cur.toArray 5 (0, 0)) ∧ cur.length = cap ∧ cur.take len = seg dv fs len
  room : len ≤ cap
  capM : cap ≤ maxLen
  cap2 : 256 ≤ cap
  nx1 : 256 ≤ nx
  nx2 : nx ≤ 2 * cap
  own : wr.ownsRow B 22 1 v6 C.length (vals C)
  chunks : Chunks dv wr B g 0 C
  tot : total C = fs
  kn : fs + len ≤ n
  clen : C.length ≤ fs

def lenV : Value → Nat
  | .slice _ n _ => n
  | _ => 0

theorem make512 (w : World) : (Instr.makeSlice 22 (.int .i64 0) (.int .i64 512)).run Ybad.prog w = .ok (.slice (some ⟨w.heap.size, 0, none⟩) 0 512) (w.alloc (.cells (madeCells #[.int .u8 0] 512) 5)) := by
  obtain ⟨i, hi, hz, hs, hb⟩ := info_parts info5
  have h := run_make (P := Ybad.prog) w 22 5 i (.int .u8 0) Ybad.underlying22 hi hz .i64 .i64 0 512 (by omega) (by omega) (by rw [hb]; omega) (by omega)
  simpa [hs, Value.cells] using h
theorem make4 (w : World) : (Instr.makeSlice 55 (.int .i64 0) (.int .i64 4)).run Ybad.prog w = .ok (.slice (some ⟨w.heap.size, 0, none⟩) 0 4) (w.alloc (.cells (madeCells #[.slice none 0 0] 4) 22)) := by
  obtain ⟨i, hi, hz, hs, hb⟩ := info_parts info22
  have h := run_make (P := Ybad.prog) w 55 22 i (.slice none 0 0) Ybad.underlying55 hi hz .i64 .i64 0 4 (by omega) (by omega) (by rw [hb]; omega) (by omega)
  simpa [hs, Value.cells] using h

theorem lt_of_heap {w : World} {R : Nat} {o : Obj} (h : w.heap[R]? = some o) : R < w.heap.size := (Array.getElem?_eq_some_iff.1 h).1

theorem Rd.ofDrew {R g off : Nat} {cur cs : List Value} {rc : Array Value} {w w' : World} (h : Rd R g off cur cs rc w.drew w') : Rd R g off cur cs rc w w' :=
  ⟨h.row, h.rd, h.other, h.size, fun B b1 b2 => ((Below.refl B w).drew).trans (h.below B b1 b2)⟩

theorem RA.start (R n : Nat) (rc : Nat → Array Value) (dv : Nat → Int) (w : World) (hR : w.heap[R]? = some (.cells (rc 0) 29 (0, 0))) :
    RA w.heap.size R n w.heap.size 512 0 256 0 (.slice (some ⟨w.heap.size + 1, 0, none⟩) 0 4) [] rc dv w ((w.alloc (.cells (madeCells #[.int .u8 0] 512) 5)).alloc (.cells (madeCells #[.slice none 0 0] 4) 22)) := by
  have hRs : R < w.heap.size := lt_of_heap hR
  have ho : ∀ i, i < w.heap.size → ((w.alloc (.cells (madeCells #[.int .u8 0] 512) 5)).alloc (.cells (madeCells #[.slice none 0 0] 4) 22)).heap[i]? = w.heap[i]? := fun i hi => by
    rw [Below.heap_alloc _ _ _ (by simp; omega), Below.heap_alloc _ _ _ hi]
  refine ⟨(ho R hRs).trans hR, fun i hi _ => ho i hi, fun B' _ hB => ((Below.refl _ _).alloc hB _).alloc (by simp; omega) _, Nat.le_refl _, ⟨(madeCells #[.int .u8 0] 512).toList, ?_, by simp [size_madeCells], by simp [seg]⟩, by omega, by decide, by omega, by omega, by omega, ⟨by simp [vals], .inr ⟨w.heap.size + 1, 4, madeCells #[.slice none 0 0] 4, rfl, by omega, ?_, by simp, by decide, ?_, by simp [vals]⟩⟩, trivial, rfl, by omega, by simp⟩
  · rw [Below.heap_alloc _ _ _ (by simp), heap_alloc_new]
  · have := heap_alloc_new (w.alloc (.cells (madeCells #[.int .u8 0] 512) 5)) (.cells (madeCells #[.slice none 0 0] 4) 22)
    rwa [World.size_alloc] at this
  · simp [size_madeCells]


theorem ownsRow_keep {w w' : World} {base n size : Nat} {e : TypeId} {v : Value} {xs : List Value} (h : w.ownsRow base e size v n xs) (hk : ∀ q cur, base ≤ q → w.heap[q]? = some (.cells cur e (0, 0)) → w'.heap[q]? = w.heap[q]?) : w'.ownsRow base e size v n xs := by
  refine ⟨h.1, ?_⟩
  rcases h.2 with h0 | ⟨q, cap, cur, e1, e2, e3, e4⟩
  · exact .inl h0
  · exact .inr ⟨q, cap, cur, e1, e2, (hk q cur e2 e3).trans e3, e4⟩

theorem take_splice (cur cs : List Value) (off : Nat) (h : off + cs.length ≤ cur.length) : (splice cur off cs).take (off + cs.length) = cur.take off ++ cs := by
  unfold splice
  have h1 : (cur.take off).length = off := by simp; omega
  rw [← List.append_assoc, List.take_left' (by simp; omega)]

/-- One Read. -/
theorem RA.read {B R n g cap len nx fs m : Nat} {v6 : Value} {C : List (Nat × Nat × Nat)} {rc : Nat → Array Value} {dv : Nat → Int} {w wr wc : World} (h : RA B R n g cap len nx fs v6 C rc dv w wr) (hRB : R < B)
    {cur : List Value} (hrow : wr.heap[g]? = some (.cells cur.toArray 5 (0, 0))) (hcl : cur.length = cap) (hct : cur.take len = seg dv fs len)
    (hm : m ≤ cap - len) (hmn : fs + len + m ≤ n) (hrd : Rd R g len cur (seg dv (fs + len) m) (rc (fs + len + m)) wr wc) : RA B R n g cap (len + m) nx fs v6 C rc dv w wc := by
  have hgB := h.gB
  have hro := h.room
  refine ⟨by rw [← Nat.add_assoc]; exact hrd.rd, fun i hi hne => (hrd.other i (by omega) hne).trans (h.other i hi hne), fun B' b1 b2 => (h.below B' b1 b2).trans (hrd.below B' (by omega) b1), hgB, ⟨_, hrd.row, ?_, ?_⟩, by omega, h.capM, h.cap2, h.nx1, h.nx2, ownsRow_keep h.own fun q cur' hq hc => ?_, ?_, h.tot, by omega, h.clen⟩
  · rw [length_splice _ _ _ (by rw [length_seg]; omega), hcl]
  · have := take_splice cur (seg dv (fs + len) m) len (by rw [length_seg]; omega)
    rw [length_seg] at this
    rw [this, hct, seg_add]
  · refine hrd.other q (fun e => ?_) (by omega)
    subst e; rw [hrow] at hc; simp at hc
  · exact h.chunks.keep (Nat.le_refl _) fun g' o m' h1 h2 _ => hrd.other g' (by omega) (by omega)

/-- b goes to the chunks; a new b. -/
theorem RA.move {B R n g cap len nx fs : Nat} {v6 v' : Value} {C : List (Nat × Nat × Nat)} {rc : Nat → Array Value} {dv : Nat → Int} {w wc w1 : World} (h : RA B R n g cap len nx fs v6 C rc dv w wc) (hRB : R < B) (hfull : cap - len < cap / 16) (hn : n ≤ 1048576) {o : Obj}
    (hown : w1.ownsRow B 22 1 v' (C.length + 1) (vals C ++ [.slice (some ⟨g, 0, none⟩) len cap])) (hg : (wc.alloc o).grownBy w1 v6.ownBlock) :
    RA B R n w1.heap.size (grownCap w1 nx 0 5) 0 (nx + nx / 2) (fs + len) v' (C ++ [(g, len, cap)]) rc dv w (w1.drew.alloc (.cells (Builtin.zeroCells #[.int .u8 0] nx ++ Builtin.zeroCells #[.int .u8 0] (grownCap w1 nx 0 5 - nx)) 5)) := by
  have hgB := h.gB
  obtain ⟨cur, hrow, hcl, hct⟩ := h.row
  have hgs : g < wc.heap.size := lt_of_heap hrow
  have hRs : R < wc.heap.size := by omega
  have hz : wc.heap.size + 1 ≤ w1.heap.size := by have := hg.size; simpa using this
  have hge := grownCap_ge w1 nx 0 5
  have h1 := h.nx1
  have h2 := h.nx2
  have hcapn : cap ≤ 2097152 := by have := h.kn; omega
  have hle : grownCap w1 nx 0 5 ≤ maxLen := grownCap_le_maxLen w1 nx 0 5 (by unfold maxLen; omega)
  -- a block of wc that is not the chunks' own row
  have hk : ∀ i, i < wc.heap.size → some i ≠ v6.ownBlock → (w1.drew.alloc (.cells (Builtin.zeroCells #[.int .u8 0] nx ++ Builtin.zeroCells #[.int .u8 0] (grownCap w1 nx 0 5 - nx)) 5)).heap[i]? = wc.heap[i]? := fun i hi hne => by
    rw [Below.heap_alloc _ _ _ (by show i < w1.heap.size; omega)]
    show w1.heap[i]? = _
    rw [hg.block i (by simp; omega) hne, Below.heap_alloc _ _ _ hi]
  have hq : ∀ i, v6.ownBlock = some i → B ≤ i ∧ ∃ c, wc.heap[i]? = some (.cells c 22 (0, 0)) := fun i hi => by
    rcases h.own.2 with ⟨e, _⟩ | ⟨q, cp, cr, e, e2, e3, _⟩
    · subst e; simp [Value.ownBlock] at hi
    · subst e; simp [Value.ownBlock] at hi; subst hi; exact ⟨e2, cr, e3⟩
  have hne5 : ∀ i c, wc.heap[i]? = some (.cells c 5 (0, 0)) → some i ≠ v6.ownBlock := fun i c hc e => by
    obtain ⟨_, c', hc'⟩ := hq i e.symm
    rw [hc] at hc'; simp at hc'
  have hneB : ∀ i, i < B → some i ≠ v6.ownBlock := fun i hi e => by have := (hq i e.symm).1; omega
  refine ⟨by rw [Nat.add_zero]; exact (hk R hRs (hneB R hRB)).trans h.rd, fun i hi hne => (hk i (by omega) (hneB i hi)).trans (h.other i hi hne), fun B' b1 b2 => ?_, by omega, ⟨(Builtin.zeroCells #[.int .u8 0] nx ++ Builtin.zeroCells #[.int .u8 0] (grownCap w1 nx 0 5 - nx)).toList, ?_, ?_, by simp [seg]⟩, by omega, hle, by omega, by omega, by omega, ?_, ?_, ?_, by have := h.kn; omega, by have := h.clen; have := h.cap2; simp; omega⟩
  · exact (((h.below B' b1 b2).alloc (by omega) o).grown hg (by simp; omega) (fun k e => by have := (hq k e).1; omega)).drew.alloc (by show B' ≤ w1.heap.size; omega) _
  · have := heap_alloc_new w1.drew (.cells (Builtin.zeroCells #[.int .u8 0] nx ++ Builtin.zeroCells #[.int .u8 0] (grownCap w1 nx 0 5 - nx)) 5)
    rw [Array.toArray_toList]
    exact this
  · simp [size_zeroCells]; omega
  · have e : (C ++ [(g, len, cap)]).length = C.length + 1 := by simp
    have e2 : vals (C ++ [(g, len, cap)]) = vals C ++ [.slice (some ⟨g, 0, none⟩) len cap] := by simp [vals]
    rw [e, e2]
    exact ownsRow_keep hown fun q cur' hq hc => Below.heap_alloc _ _ _ (show q < w1.heap.size from lt_of_heap hc)
  · refine Chunks.snoc (h.chunks.keep (by omega) fun g' o m' b1 b2 hp => ?_) hgB (by omega) ?_
    · obtain ⟨c, hc, _⟩ := hp
      exact hk g' (by omega) (hne5 g' _ hc)
    · rw [Nat.zero_add, h.tot]
      exact ⟨cur, (hk g hgs (hne5 g _ hrow)).trans hrow, by have := h.room; show len ≤ cur.length; omega, hct⟩
  · rw [total_snoc, h.tot]

/-- No Read of nothing but at the end. -/
theorem took_pos {s n k L : Nat} (hs : 1 ≤ s) (hL : 0 < L) (hk : k < n) : 0 < took s n k L := by unfold took; omega
theorem took_le {s n k L : Nat} : took s n k L ≤ L ∧ (k ≤ n → k + took s n k L ≤ n) := by unfold took; omega

theorem own_base {w : World} {base base' n size : Nat} {e : TypeId} {v : Value} {xs : List Value} (h : w.ownsRow base e size v n xs) (hb : base' ≤ base) : w.ownsRow base' e size v n xs := by
  refine ⟨h.1, ?_⟩
  rcases h.2 with h0 | ⟨q, cap, cur, e1, e2, r⟩
  · exact .inl h0
  · exact .inr ⟨q, cap, cur, e1, by omega, r⟩
theorem own_form {w : World} {base n size : Nat} {e : TypeId} {v : Value} {xs : List Value} (h : w.ownsRow base e size v n xs) : ∃ ao cap, v = .slice ao n cap ∧ ((ao = none ∧ n = 0) ∨ ∃ q, ao = some ⟨q, 0, none⟩ ∧ base ≤ q ∧ q < w.heap.size ∧ ∀ j u, xs[j]? = some u → w.cell? ⟨q, j, none⟩ = some u) := by
  rcases h.2 with ⟨rfl, rfl⟩ | ⟨q, cap, cur, rfl, h2, h3, _⟩
  · exact ⟨_, _, rfl, .inl ⟨rfl, rfl⟩⟩
  · refine ⟨_, _, rfl, .inr ⟨q, rfl, h2, lt_of_heap h3, fun j u hj => ?_⟩⟩
    have := h.cells (g := q) rfl j u hj
    by_cases e : j = 0
    · subst e; simpa [Addr.add] using this
    · simpa [Addr.add, e] using this
theorem own_block {w : World} {base n size : Nat} {e : TypeId} {v : Value} {xs : List Value} (h : w.ownsRow base e size v n xs) (k : Nat) (hk : v.ownBlock = some k) : base ≤ k := by
  rcases h.2 with ⟨rfl, _⟩ | ⟨q, cap, cur, rfl, h2, _⟩
  · simp [Value.ownBlock] at hk
  · simp [Value.ownBlock] at hk; omega

/-- b itself, as what is handed back. -/
theorem RA.owned {B R n g cap len nx fs : Nat} {v6 : Value} {C : List (Nat × Nat × Nat)} {rc : Nat → Array Value} {dv : Nat → Int} {w wc : World} (h : RA B R n g cap len nx fs v6 C rc dv w wc) : wc.ownsRow B 5 1 (.slice (some ⟨g, 0, none⟩) len cap) len (seg dv fs len) := by
  obtain ⟨cur, hrow, hcl, hct⟩ := h.row
  exact ⟨by rw [length_seg]; omega, .inr ⟨g, cap, cur.toArray, rfl, h.gB, hrow, h.room, h.capM, by simp [hcl], by simpa using hct⟩⟩
theorem RA.piece {B R n g cap len nx fs : Nat} {v6 : Value} {C : List (Nat × Nat × Nat)} {rc : Nat → Array Value} {dv : Nat → Int} {w wc : World} (h : RA B R n g cap len nx fs v6 C rc dv w wc) : Piece dv wc g fs len := by
  obtain ⟨cur, hrow, hcl, hct⟩ := h.row
  exact ⟨cur, hrow, by have := h.room; omega, hct⟩

/-- What ReadAll leaves. -/
structure Rdone (R n : Nat) (rc : Array Value) (dv : Nat → Int) (v : Value) (w w' : World) : Prop where
  own : w'.ownsRow w.heap.size 5 1 v n (seg dv 0 n)
  rd : w'.heap[R]? = some (.cells rc 29 (0, 0))
  other : ∀ i, i < w.heap.size → i ≠ R → w'.heap[i]? = w.heap[i]?
  below : ∀ B', B' ≤ R → Below B' w w'

theorem RA.done0 {R n g cap len nx fs : Nat} {v6 : Value} {rc : Nat → Array Value} {dv : Nat → Int} {w wc : World} (hRs : R < w.heap.size) (h : RA w.heap.size R n g cap len nx fs v6 [] rc dv w wc) (hn : fs + len = n) : Rdone R n (rc n) dv (.slice (some ⟨g, 0, none⟩) len cap) w wc := by
  have ht : fs = 0 := by have := h.tot; simp [total] at this; omega
  subst ht
  have hl : len = n := by omega
  subst hl
  exact ⟨h.owned, by have := h.rd; rwa [Nat.zero_add] at this, h.other, fun B' hb => h.below B' hb (by omega)⟩
/-- Behind the gathering: F: the heap's size ahead of it. -/
theorem RA.done1 {R n g cap len nx fs F : Nat} {v6 v : Value} {C : List (Nat × Nat × Nat)} {rc : Nat → Array Value} {dv : Nat → Int} {w wc w' : World} (hRs : R < w.heap.size) (h : RA w.heap.size R n g cap len nx fs v6 C rc dv w wc) (hn : fs + len = n) (hF : F = wc.heap.size)
    (hown : w'.ownsRow F 5 1 v n (seg dv 0 n)) (hb : Below F wc w') : Rdone R n (rc n) dv v w w' := by
  have hg : g < wc.heap.size := by obtain ⟨c, hc, _⟩ := h.row; exact lt_of_heap hc
  have hgB := h.gB
  subst hF
  refine ⟨own_base hown (by omega), (hb.block R (by omega)).trans (by rw [← hn]; exact h.rd), fun i hi hne => (hb.block i (by omega)).trans (h.other i hi hne), fun B' hB => (h.below B' hB (by omega)).trans (hb.mono (by omega))⟩

/-- One chunk more is gathered. -/
theorem gather {F : Nat} {v v' : Value} {dv : Nat → Int} {wc wx w1 : World} {a b : Nat} (hown : w1.ownsRow F 5 1 v' (a + b) (seg dv 0 a ++ seg dv (0 + a) b)) (hb : Below F wc wx) (hF : F ≤ wx.heap.size) (hv : wx.ownsRow F 5 1 v a (seg dv 0 a)) (hg : wx.grownBy w1 v.ownBlock) :
    w1.ownsRow F 5 1 v' (a + b) (seg dv 0 (a + b)) ∧ Below F wc w1 := by
  rw [← seg_add] at hown
  exact ⟨hown, hb.grown hg hF (fun k hk => own_block hv k hk)⟩
theorem own_start (dv : Nat → Int) (n : Nat) (hn : n ≤ 1048576) (wc : World) : (wc.drew.alloc (.cells (Builtin.zeroCells #[.int .u8 0] n ++ Builtin.zeroCells #[.int .u8 0] (grownCap wc n 0 5 - n)) 5)).ownsRow wc.heap.size 5 1 (.slice (some ⟨wc.heap.size, 0, none⟩) 0 (grownCap wc n 0 5)) 0 (seg dv 0 0) := by
  have hge := grownCap_ge wc n 0 5
  have hle : grownCap wc n 0 5 ≤ maxLen := grownCap_le_maxLen wc n 0 5 (by unfold maxLen; omega)
  refine ⟨by simp [seg], .inr ⟨wc.heap.size, grownCap wc n 0 5, _, rfl, Nat.le_refl _, heap_alloc_new wc.drew _, by omega, hle, ?_, by simp [seg]⟩⟩
  simp [size_zeroCells]; omega
theorem below_start (n : Nat) (wc : World) : Below wc.heap.size wc (wc.drew.alloc (.cells (Builtin.zeroCells #[.int .u8 0] n ++ Builtin.zeroCells #[.int .u8 0] (grownCap wc n 0 5 - n)) 5)) :=
  ((Below.refl _ _).drew).alloc (Nat.le_refl _) _
theorem vals_at {C : List (Nat × Nat × Nat)} {i : Nat} (h : i < C.length) : (vals C)[i]? = some (.slice (some ⟨C[i].1, 0, none⟩) C[i].2.1 C[i].2.2) := by
  simp [vals, h]
theorem seg_at_one (dv : Nat → Int) (k m : Nat) (l : List Value) (h : l = seg dv k m) : l.length = m := by rw [h, length_seg]
end Go.Proofs.YbulkdxzcDoor
