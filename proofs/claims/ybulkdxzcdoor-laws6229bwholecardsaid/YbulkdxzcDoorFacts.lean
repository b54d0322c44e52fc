/- What the law keeps around newDecoder and in its last loop; no walk. -/
import Derived.Test.YbulkdxzcDoorDec
namespace Go.Proofs.YbulkdxzcDoor
open Go.RowKit
set_option linter.unusedSimpArgs false
set_option linter.unusedVariables false

theorem Data.keep {w w' : World} {a : Option Addr} {n cap B : Nat} {dv : Nat → Int} (h : Data w a n cap dv B) (hb : Below B w w') : Data w' a n cap dv B := by
  refine ⟨h.1, h.2.1, fun hn => ?_⟩
  obtain ⟨b, off, e, hB, hc⟩ := h.2.2 hn
  exact ⟨b, off, e, hB, fun i hi => (hb.cell (p := ⟨b, off + i, none⟩) hB).trans (hc i hi)⟩

/-- Ahead of newDecoder. -/
structure St (n cap0 s : Nat) (a0 : Option Addr) (dv : Nat → Int) (fail wd : Bool) (orig : Value) (es : Addr) (R : Nat) (w wx : World) : Prop where
  own : wx.ownsRow w.heap.size 5 1 orig n (seg dv 0 n)
  bel : Below w.heap.size w wx
  size : w.heap.size ≤ wx.heap.size
  rd : wx.heap[R]? = some (.cells #[.slice a0 n cap0, .int .i64 (0 : Nat), .int .i64 s, .bool fail, .bool wd, .iface 48 (.pointer (some es))] 29 (0, 0))
  sen : ∃ str, wx.heap[es.block]? = some (.cells #[.string str] 50 (0, 0))
  esR : es.block ≠ R
  NR : w.heap.size ≤ R
  ese : w.heap.size ≤ es.block

theorem St.start (n cap0 s : Nat) (a0 : Option Addr) (dv : Nat → Int) (fail wd : Bool) (orig : Value) (str : ByteArray) (si : Int) (w w1 : World) (hs : si = (s : Int)) (hown : w1.ownsRow w.heap.size 5 1 orig n (seg dv 0 n)) (hb : Below w.heap.size w w1) (hz : w.heap.size ≤ w1.heap.size) :
    St n cap0 s a0 dv fail wd orig ⟨w1.heap.size, 0, none⟩ (w1.heap.size + 1) w ((w1.alloc (.cells #[.string str] 50)).alloc (.cells #[.slice a0 n cap0, .int .i64 0, .int .i64 si, .bool fail, .bool wd, .iface 48 (.pointer (some ⟨w1.heap.size, 0, none⟩))] 29)) := by
  subst hs
  refine ⟨(hown.alloc _).alloc _, (hb.alloc hz _).alloc (by simp; omega) _, by simp; omega, ?_, ⟨str, ?_⟩, by simp, by omega, hz⟩
  · have := heap_alloc_new (w1.alloc (.cells #[.string str] 50)) (.cells #[.slice a0 n cap0, .int .i64 0, .int .i64 (s : Int), .bool fail, .bool wd, .iface 48 (.pointer (some ⟨w1.heap.size, 0, none⟩))] 29)
    rw [World.size_alloc] at this
    exact this
  · rw [Below.heap_alloc _ _ _ (by simp), heap_alloc_new]
theorem St.alloc {n cap0 s : Nat} {a0 : Option Addr} {dv : Nat → Int} {fail wd : Bool} {orig : Value} {es : Addr} {R : Nat} {w wx : World} (h : St n cap0 s a0 dv fail wd orig es R w wx) (o : Obj) : St n cap0 s a0 dv fail wd orig es R w (wx.alloc o) := by
  obtain ⟨str, hstr⟩ := h.sen
  refine ⟨h.own.alloc o, h.bel.alloc h.size o, by have := h.size; simp; omega, ?_, ⟨str, ?_⟩, h.esR, h.NR, h.ese⟩
  · rw [Below.heap_alloc _ _ _ (lt_of_heap h.rd)]; exact h.rd
  · rw [Below.heap_alloc _ _ _ (lt_of_heap hstr)]; exact hstr

theorem St.ne {n cap0 s : Nat} {a0 : Option Addr} {dv : Nat → Int} {fail wd : Bool} {orig : Value} {es : Addr} {R : Nat} {w wx : World} (h : St n cap0 s a0 dv fail wd orig es R w wx) {ea : Addr} {ce : Array Value} {te : TypeId} (hb : w.heap[ea.block]? = some (.cells ce te (0, 0))) :
    ∀ W : World, (∀ i, i < wx.heap.size → i ≠ R → W.heap[i]? = wx.heap[i]?) → (binOp .eql 25 (.iface 48 (.pointer (some es))) (.iface 48 (.pointer (some ea)))).run Ybad.prog W = .ok (.bool false) W := by
  intro W hW
  obtain ⟨str, hstr⟩ := h.sen
  have hea := lt_of_heap hb
  have h1 := h.ese
  have h2 := h.NR
  have h3 := h.size
  have hi : ∃ i, Ybad.prog.info? 48 = some i ∧ i.comparable = true := by
    have h : (Ybad.prog.info? 48).map (·.comparable) = some true := by kernel_rfl
    obtain ⟨i, hi, hz⟩ := Option.map_eq_some_iff.1 h
    exact ⟨i, hi, hz⟩
  have hj : ∃ j, Ybad.prog.info? 50 = some j ∧ j.size = 1 := by
    have h : (Ybad.prog.info? 50).map (·.size) = some 1 := by kernel_rfl
    obtain ⟨i, hi, hz⟩ := Option.map_eq_some_iff.1 h
    exact ⟨i, hi, hz⟩
  obtain ⟨i, hi, hc⟩ := hi
  obtain ⟨j, hj, hjs⟩ := hj
  refine run_eql_iface_ptr_other W Ybad.underlying25 Ybad.underlying48 hi hc hj (by omega) (fun e => ?_) ((hW _ (lt_of_heap hstr) h.esR).trans hstr) ((hW _ (by omega) (by omega)).trans ((h.bel.block _ hea).trans hb))
  subst e; omega

theorem own_off {w w' : World} {base n R : Nat} {v : Value} {xs : List Value} {c : Array Value} (h : w.ownsRow base 5 1 v n xs) (hR : w.heap[R]? = some (.cells c 29 (0, 0))) (ho : ∀ i, i < w.heap.size → i ≠ R → w'.heap[i]? = w.heap[i]?) : w'.ownsRow base 5 1 v n xs :=
  ownsRow_keep h fun q cur hq hc => ho q (lt_of_heap hc) fun e => by subst e; rw [hR] at hc; simp at hc
theorem own_lt {w : World} {base n size : Nat} {e : TypeId} {v : Value} {xs : List Value} (h : w.ownsRow base e size v n xs) (k : Nat) (hk : v.ownBlock = some k) : k < w.heap.size := by
  rcases h.2 with ⟨rfl, _⟩ | ⟨q, cap, cur, rfl, h2, h3, _⟩
  · simp [Value.ownBlock] at hk
  · simp [Value.ownBlock] at hk; subst hk; exact lt_of_heap h3

theorem own_keep2 {w w' : World} {base n size : Nat} {e : TypeId} {v : Value} {xs : List Value} (h : w.ownsRow base e size v n xs) (hk : ∀ k, v.ownBlock = some k → w'.heap[k]? = w.heap[k]?) : w'.ownsRow base e size v n xs := by
  refine ⟨h.1, ?_⟩
  rcases h.2 with h0 | ⟨q, cap, cur, e1, e2, e3, e4⟩
  · exact .inl h0
  · exact .inr ⟨q, cap, cur, e1, e2, (hk q (by rw [e1]; rfl)).trans e3, e4⟩
theorem Rdone.size {R n : Nat} {rc : Array Value} {dv : Nat → Int} {v : Value} {w w' : World} (h : Rdone R n rc dv v w w') : w.heap.size ≤ w'.heap.size := by
  rcases Nat.eq_zero_or_pos w.heap.size with h0 | h0
  · omega
  · by_cases e : w.heap.size - 1 = R
    · have := lt_of_heap h.rd; omega
    · have h1 := h.other (w.heap.size - 1) (by omega) e
      have h2 : ∃ o, w.heap[w.heap.size - 1]? = some o := ⟨_, Array.getElem?_eq_getElem (by omega)⟩
      obtain ⟨o, h2⟩ := h2
      rw [h2] at h1
      have := lt_of_heap h1; omega

/-- Behind newDecoder, at a decoder; and in the last loop. -/
structure L (n M D cv : Nat) (dv : Nat → Int) (orig : Value) (ao fp : Option Addr) (w wx : World) : Prop where
  own : wx.ownsRow w.heap.size 5 1 orig n (seg dv 0 n)
  ob : ∀ k, orig.ownBlock = some k → k < M
  dec : wx.heap[D]? = some (.cells #[.slice ao n cv, .int .i64 0, .pointer fp, .slice none 0 0, .slice none 0 0] 46 (0, 0))
  bel : Below w.heap.size w wx
  NM : w.heap.size ≤ M
  row : 0 < n → ∃ q, ao = some ⟨q, 0, none⟩ ∧ M ≤ q ∧ q < D ∧ ∃ cur : Array Value, wx.heap[q]? = some (.cells cur 5 (0, 0)) ∧ ∀ j, j < n → ∃ x, cur[j]? = some (.int .u8 x)

theorem L.start {n cap0 s : Nat} {a0 : Option Addr} {dv : Nat → Int} {fail wd : Bool} {orig : Value} {es : Addr} {R : Nat} {w wx w1 : World} (h : St n cap0 s a0 dv fail wd orig es R w wx) {rc : Array Value} {ao : Option Addr} {cv : Nat} (hd : Rdone R n rc dv (.slice ao n cv) wx w1) (fp : Option Addr) :
    L n wx.heap.size w1.heap.size cv dv orig ao fp w (w1.alloc (.cells #[.slice ao n cv, .int .i64 0, .pointer fp, .slice none 0 0, .slice none 0 0] 46)) := by
  have h3 := h.size
  have hz := hd.size
  refine ⟨(own_off h.own h.rd hd.other).alloc _, fun k hk => own_lt h.own k hk, heap_alloc_new _ _, (h.bel.trans (hd.below _ h.NR)).alloc (by omega) _, h3, fun hn => ?_⟩
  rcases hd.own.2 with ⟨e, e0⟩ | ⟨q, cap, cur, e, h2, h4, h5, h6, h7, h8⟩
  · omega
  · obtain ⟨rfl, rfl⟩ : ao = some ⟨q, 0, none⟩ ∧ cv = cap := by cases e; exact ⟨rfl, rfl⟩
    have hq := lt_of_heap h4
    refine ⟨q, rfl, h2, hq, cur, (Below.heap_alloc _ _ _ hq).trans h4, fun j hj => ⟨dv (0 + j), ?_⟩⟩
    have h9 := seg_at (dv := dv) (k := 0) (m := n) hj
    rw [← h8, Nat.mul_one, List.getElem?_take, if_pos hj] at h9
    simpa using h9

theorem L.next {n M D cv : Nat} {dv : Nat → Int} {orig : Value} {ao fp : Option Addr} {w wx : World} (h : L n M D cv dv orig ao fp w wx) {q i : Nat} (hq : ao = some ⟨q, 0, none⟩) (hi : i < n) (y : Int) :
    L n M D cv dv orig ao fp w (wx.setCell ⟨q, i, none⟩ (.int .u8 y)) := by
  obtain ⟨q', e, hM, hD, cur, hc, hx⟩ := h.row (by omega)
  obtain rfl : q' = q := by rw [hq] at e; cases e; rfl
  have hNM := h.NM
  have ho : ∀ k, k ≠ q' → (wx.setCell ⟨q', i, none⟩ (.int .u8 y)).heap[k]? = wx.heap[k]? := fun k hk => Below.heap_setCell _ _ _ _ hk
  refine ⟨own_keep2 h.own fun k hk => ho k fun e => ?_, h.ob, (ho D (by omega)).trans h.dec, h.bel.setCell (p := ⟨q', i, none⟩) (by show _ ≤ q'; omega) _, h.NM, fun hn => ⟨q', hq, hM, hD, cur.setIfInBounds i (.int .u8 y), ?_, fun j hj => ?_⟩⟩
  · have := h.ob k hk; omega
  · have := heap_setCell_same wx q' i _ 5 (.int .u8 y) hc
    exact this
  · rcases Nat.lt_or_ge i cur.size with hlt | hge
    · by_cases e : i = j
      · subst e; exact ⟨y, by simp [hlt]⟩
      · obtain ⟨x, hx⟩ := hx j hj; exact ⟨x, by rw [Array.getElem?_setIfInBounds_ne e]; exact hx⟩
    · obtain ⟨x, hx⟩ := hx i hi; simp [Array.getElem?_eq_none hge] at hx

theorem L.cell {n M D cv : Nat} {dv : Nat → Int} {orig : Value} {ao fp : Option Addr} {w wx : World} (h : L n M D cv dv orig ao fp w wx) {i : Nat} (hi : i < n) : ∃ q x, ao = some ⟨q, 0, none⟩ ∧ wx.cell? ⟨q, i, none⟩ = some (.int .u8 x) ∧ wx.frozen? ⟨q, i, none⟩ = false := by
  obtain ⟨q, e, hM, hD, cur, hc, hx⟩ := h.row (by omega)
  obtain ⟨x, hx⟩ := hx i hi
  exact ⟨q, x, e, cell_of hc hx, frozen_of hc i⟩
theorem neq_field (a : Addr) (w : World) : (binOp .neq 30 (.pointer (some a)) (.pointer (some a))).run Ybad.prog w = .ok (.bool false) w := by
  have h2 : ∃ j, Ybad.prog.info? 38 = some j := by
    have h : (Ybad.prog.info? 38).isSome = true := by kernel_rfl
    exact Option.isSome_iff_exists.1 h
  obtain ⟨j, hj⟩ := h2
  have h : ∀ d : Nat, (Op.equalIn (d + 1) 30 (.pointer (some a)) (.pointer (some a))).run Ybad.prog w = .ok true w := fun d => by simp [Op.equalIn, run_underlying Ybad.underlying30, sizeOf, typeInfo, hj, run_sameAddr_same]
  simp only [binOp]
  simp [Op.equal, Op.maxDepth, h 9999]
theorem eql_dec (a : Addr) (w : World) : (binOp .eql 39 (.pointer (some a)) (.pointer none)).run Ybad.prog w = .ok (.bool false) w := by kernel_rfl
end Go.Proofs.YbulkdxzcDoor
