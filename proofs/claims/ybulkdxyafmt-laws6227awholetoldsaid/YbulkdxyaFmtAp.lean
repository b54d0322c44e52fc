/- The law on components: the plain side of her memory. -/
import Derived.Test.YbulkdxyaFmtAs
import Derived.Test.YbulkdxyaFmtAc
import Derived.Laws.Tables
import Derived.Lib.Builder
namespace Go.Proofs.YbulkdxyaFmt
open Go.RowKit
set_option linter.unusedSimpArgs false
set_option linter.unusedVariables false

theorem make35 (W : World) : (Instr.makeMap 35 none).run Ybaf.prog W = .ok (.map (some W.heap.size)) (W.alloc (.map #[] 0)) := by kernel_rfl
abbrev cf5 : Array Value := #[.int .i64 4, .int .i64 2, .int .i64 1000000000, .int .i64 1000000000, .bool false]
/-- The world's cells, freshly built. -/
theorem built47 (M : Nat) : ∃ r34 Wc, Ybaf.prog.built 34 [(14, .agg cf5)] = some r34 ∧ Ybaf.prog.built 47 [(0, .agg r34), (5, .map (some M))] = some Wc ∧ Wc.size = 65 ∧ Wc[27]? = some (.map (some M)) := by
  refine ⟨(Ybaf.prog.built 34 [(14, .agg cf5)]).getD #[], (Ybaf.prog.built 47 [(0, .agg ((Ybaf.prog.built 34 [(14, .agg cf5)]).getD #[])), (5, .map (some M))]).getD #[], by kernel_rfl, by kernel_rfl, by kernel_rfl, by kernel_rfl⟩

theorem wpList_built1 {P : Program} {ops : Array Oper} {rest : List Oper} {o : Oper} {a : Act} {w : World} {Q : Exit → Act → World → Prop} (hg : o.guard = none) (t : TypeId) (i : Nat) (x : Operand) (ho : o.op = .build t #[(i, x)]) (v : Value) (hv : a.eval x = v) (R : Array Value)
    (hr : (Instr.build t #[(i, v)]).run P w = .ok (.agg R) w) (h : wpList P ops Q rest (a.put o.dst (.agg R)) w) : wpList P ops Q (o :: rest) a w :=
  wpList_plain hg fun _ hK => YbulkdxyaFmt.wp_build t _ ho _ (by simp [hv]) R hr (hK _ _ h)
theorem wpList_built2 {P : Program} {ops : Array Oper} {rest : List Oper} {o : Oper} {a : Act} {w : World} {Q : Exit → Act → World → Prop} (hg : o.guard = none) (t : TypeId) (i j : Nat) (x y : Operand) (ho : o.op = .build t #[(i, x), (j, y)]) (v u : Value) (hv : a.eval x = v) (hu : a.eval y = u) (R : Array Value)
    (hr : (Instr.build t #[(i, v), (j, u)]).run P w = .ok (.agg R) w) (h : wpList P ops Q rest (a.put o.dst (.agg R)) w) : wpList P ops Q (o :: rest) a w :=
  wpList_plain hg fun _ hK => YbulkdxyaFmt.wp_build t _ ho _ (by simp [hv, hu]) R hr (hK _ _ h)

/-- The configuration, the world and the hosts' map. -/
structure AS (w0 w : World) (Cb : Nat) (Wc : Array Value) (hm : Int → Option Nat) : Prop where
  cfg : w.heap[Cb]? = some (.cells cf5 25 (0, 0))
  wld : w.heap[Cb + 2]? = some (.cells Wc 47 (0, 0))
  map : MM w (Cb + 1) hm
  base : Below w0.heap.size w0 w
  ge : w0.heap.size ≤ Cb
theorem AS.keep {w0 w w' : World} {Cb : Nat} {Wc : Array Value} {hm : Int → Option Nat} (h : AS w0 w Cb Wc hm) (hb : Below w.heap.size w w') : AS w0 w' Cb Wc hm :=
  ⟨(hb.block _ (Array.getElem?_eq_some_iff.1 h.cfg).1).trans h.cfg, (hb.block _ (Array.getElem?_eq_some_iff.1 h.wld).1).trans h.wld, h.map.keep (hb.block _ h.map.lt), h.base.trans (hb.mono h.base.size), h.ge⟩
theorem AS.rk {w0 w w' : World} {Cb g n : Nat} {Wc : Array Value} {hm : Int → Option Nat} (h : AS w0 w Cb Wc hm) (hr : RK w w' g 0 n) (hg : Cb + 2 < g) : AS w0 w' Cb Wc hm := by
  have l2 := (Array.getElem?_eq_some_iff.1 h.wld).1
  have hge := h.ge
  refine ⟨(hr.other _ (by omega) (by omega)).trans h.cfg, (hr.other _ l2 (by omega)).trans h.wld, h.map.keep (hr.other _ (by omega) (by omega)), h.base.trans ⟨hr.os, hr.tape, hr.out, hr.size, fun j hj => hr.other j ?_ (by omega)⟩, hge⟩
  have := h.base.size
  omega
/-- The sorted row. -/
def SR (w : World) (lo : Nat) (p : Option Addr) (n c : Nat) : Prop := n = 0 ∨ ∃ g, p = some ⟨g, 0, none⟩ ∧ n ≤ c ∧ RK w w g 0 n ∧ lo < g
theorem SR.ov {w : World} {lo n m c : Nat} {p : Option Addr} (h : SR w lo p n c) (hm : m ≤ n) : ∃ xs, OV w p m xs := by
  rcases h with h0 | ⟨g, rfl, _, hr, _⟩
  · exact ⟨fun _ => 0, fun hp => by omega⟩
  · obtain ⟨f, hf, _⟩ := hr.fam
    refine ⟨f, fun _ => ⟨_, rfl, fun i hi => ?_⟩⟩
    have ha : (⟨g, 0, none⟩ : Addr).add i = ⟨g, i, none⟩ := by simp [Addr.add]; exact fun e => e.symm
    rw [ha]
    have := hf i (by omega)
    rwa [Nat.zero_add] at this

/-- Amid the loops. -/
structure LI (w0 w8 wr : World) (Cb B : Nat) (hm : Int → Option Nat) (xs : Nat → Int) (j : Nat) (rv : Value) : Prop where
  old : ∀ b, b < B → b ≠ Cb + 1 → wr.heap[b]? = w8.heap[b]?
  sz : B ≤ wr.heap.size
  base : Below w0.heap.size w0 wr
  map : MM wr (Cb + 1) hm
  ring : wr.ownsRow B 50 1 rv j ((List.range j).map fun i => .int .u64 (xs i))
  good : ∀ i, i < j → ∃ h, hm (xs i) = some h ∧ Good wr h
theorem LI.keep {w0 w8 wr w' : World} {Cb B j : Nat} {hm : Int → Option Nat} {xs : Nat → Int} {rv : Value} (h : LI w0 w8 wr Cb B hm xs j rv) (hb : Below wr.heap.size wr w') : LI w0 w8 w' Cb B hm xs j rv :=
  ⟨fun b h1 h2 => (hb.block b (Nat.lt_of_lt_of_le h1 h.sz)).trans (h.old b h1 h2), Nat.le_trans h.sz hb.size, h.base.trans (hb.mono h.base.size), h.map.keep (hb.block _ h.map.lt), own_of_block h.ring (fun g hg => hb.block g (h.ring.lt g hg).2), fun i hi => by obtain ⟨q, h1, h2⟩ := h.good i hi; exact ⟨q, h1, h2.keep hb⟩⟩
theorem LI.ov {w0 w8 wr : World} {Cb B j m : Nat} {hm hm8 : Int → Option Nat} {xs ys : Nat → Int} {rv : Value} {p : Option Addr} (h : LI w0 w8 wr Cb B hm xs j rv) (hB : B = w8.heap.size) (h8 : MM w8 (Cb + 1) hm8) (ho : OV w8 p m ys) : OV wr p m ys := fun hn => by
  obtain ⟨ad, e, q⟩ := ho hn
  refine ⟨ad, e, fun i hi => ?_⟩
  have hl := lt_of_cell (q i hi)
  rw [add_block] at hl
  have hne : ad.block ≠ Cb + 1 := fun e' => by
    obtain ⟨es, cl, h1, _⟩ := h8
    have hq := q i hi
    unfold World.cell? at hq
    rw [add_block, e', h1] at hq
    cases hq
  rw [World.cell?_of_block (w := w8) (by rw [add_block]; exact h.old ad.block (by omega) hne)]
  exact q i hi
theorem Good.upd {w w' : World} {M : Nat} {hm : Int → Option Nat} {h : Nat} (hg : Good w h) (hM : MM w M hm) (ho : ∀ j, j ≠ M → w'.heap[j]? = w.heap[j]?) : Good w' h :=
  hg.keepB fun j cs t hj _ => ho j (hM.ne hj)
theorem LI.upd {w0 w8 wr w' : World} {Cb B j : Nat} {hm : Int → Option Nat} {xs : Nat → Int} {rv : Value} {x : Int} {g : Nat} (h : LI w0 w8 wr Cb B hm xs j rv) (hge : w0.heap.size ≤ Cb + 1)
    (h2 : MM w' (Cb + 1) (fun y => if y = x then some g else hm y)) (h3 : ∀ k, k ≠ Cb + 1 → w'.heap[k]? = wr.heap[k]?) (h4 : w'.heap.size = wr.heap.size) (h5 : ∀ b, b ≤ Cb + 1 → Below b wr w') (hg : (∀ i, i < j → xs i ≠ x) ∨ Good wr g) :
    LI w0 w8 w' Cb B (fun y => if y = x then some g else hm y) xs j rv := by
  refine ⟨fun b hb hne => (h3 b hne).trans (h.old b hb hne), by rw [h4]; exact h.sz, h.base.trans (h5 _ hge), h2, own_of_block h.ring (fun q hq => h3 q (fun e => ?_)), fun i hi => ?_⟩
  · rcases h.ring.2 with ⟨e0, _⟩ | ⟨a, cap, cur, e0, _, q', _⟩
    · rw [e0] at hq; simp [Value.ownBlock] at hq
    · rw [e0] at hq
      simp [Value.ownBlock] at hq
      subst hq
      exact h.map.ne q' e
  · show ∃ q, (if xs i = x then some g else hm (xs i)) = some q ∧ _
    by_cases hx : xs i = x
    · rcases hg with hg | hg
      · exact absurd hx (hg i hi)
      · exact ⟨g, by rw [if_pos hx], hg.upd h.map h3⟩
    · obtain ⟨q, q1, q2⟩ := h.good i hi
      exact ⟨q, by rw [if_neg hx]; exact q1, q2.upd h.map h3⟩
theorem LI.push {w0 w8 wr w' : World} {Cb B j : Nat} {hm : Int → Option Nat} {xs : Nat → Int} {rv rv' : Value} {o : Obj} (h : LI w0 w8 wr Cb B hm xs j rv) (hM : Cb + 1 < B) (hw : w0.heap.size ≤ B) (hj : ∃ q, hm (xs j) = some q ∧ Good wr q)
    (hown : w'.ownsRow B 50 1 rv' (j + 1) (((List.range j).map fun i => .int .u64 (xs i)) ++ [.int .u64 (xs j)])) (hg : (wr.alloc o).grownBy w' rv.ownBlock) : LI w0 w8 w' Cb B hm xs (j + 1) rv' := by
  have hsz : wr.heap.size + 1 ≤ w'.heap.size := by have := hg.size; simpa using this
  have hlow : ∀ b, b < B → w'.heap[b]? = wr.heap[b]? := fun b hb => by
    have := h.sz
    refine (hg.block b (by simp; omega) (fun q => ?_)).trans (Below.heap_alloc _ _ _ (by omega))
    have := (h.ring.lt b q.symm).1
    omega
  have hgood : ∀ q, Good wr q → Good w' q := fun q hq => hq.keepB fun k cs t hk ht => by
    have hl := (Array.getElem?_eq_some_iff.1 hk).1
    refine (hg.block k (by simp; omega) (fun e => ?_)).trans (Below.heap_alloc _ _ _ hl)
    rcases h.ring.2 with ⟨e0, _⟩ | ⟨a, cap, cur, e0, _, q', _⟩
    · rw [e0] at e; simp [Value.ownBlock] at e
    · rw [e0] at e
      simp [Value.ownBlock] at e
      subst e
      rw [hk] at q'
      cases q'
      rcases ht with ht | ht <;> exact absurd ht (by decide)
  refine ⟨fun b hb hne => (hlow b hb).trans (h.old b hb hne), by have := h.sz; omega, ⟨hg.os.trans h.base.os, hg.tape.trans h.base.tape, hg.output.trans h.base.output, by have := h.base.size; omega, fun k hk => (hlow k (by omega)).trans (h.base.block k hk)⟩, h.map.keep (hlow _ hM), ?_, fun i hi => ?_⟩
  · rw [List.range_succ, List.map_append]
    exact hown
  · by_cases hij : i < j
    · obtain ⟨q, q1, q2⟩ := h.good i hij
      exact ⟨q, q1, hgood q q2⟩
    · obtain rfl : i = j := by omega
      obtain ⟨q, q1, q2⟩ := hj
      exact ⟨q, q1, hgood q q2⟩
theorem make_ring (m : Nat) (hm : m ≤ 4096) (W : World) : (Instr.makeSlice 43 (.int .i64 0) (.int .i64 (m : Int))).run Ybaf.prog W = .ok (.slice (some ⟨W.heap.size, 0, none⟩) 0 m) (W.alloc (.cells (madeCells #[.int .u64 0] m) 50)) := by
  obtain ⟨i50, hi50, hz0, hz1, hz2⟩ := info_parts inf50'
  have h := run_make (P := Ybaf.prog) W 43 50 i50 _ Ybaf.underlying43 hi50 hz0 .i64 .i64 0 m (by omega) (by omega) (by rw [show i50.bytes = 8 from hz2]; omega) (by omega)
  rw [show i50.size = 1 from hz1, show (Value.int .u64 0).cells = #[.int .u64 0] from rfl] at h
  simpa using h
theorem inf51 : (Ybaf.prog.info? 51).map (fun i => (i.zero, i.size, i.bytes)) = some (some (.pointer none), 1, 8) := by kernel_rfl
theorem make_hosts (m : Nat) (hm : m ≤ 4096) (W : World) : (Instr.makeSlice 42 (.int .i64 (m : Int)) (.int .i64 (m : Int))).run Ybaf.prog W = .ok (.slice (some ⟨W.heap.size, 0, none⟩) m m) (W.alloc (.cells (madeCells #[.pointer none] m) 51)) := by
  obtain ⟨i51, hi51, hz0, hz1, hz2⟩ := info_parts inf51
  exact run_make_row (P := Ybaf.prog) 42 51 i51 (.pointer none) Ybaf.underlying42 hi51 hz0 hz1 rfl .i64 .i64 m (by rw [show i51.bytes = 8 from hz2]; omega) (by omega) W
theorem LI.ws {w0 w8 wr : World} {Cb B m rg rc : Nat} {hm : Int → Option Nat} {xs : Nat → Int} {Wc : Array Value} (h : LI w0 w8 wr Cb B hm xs m (.slice (some ⟨rg, 0, none⟩) m rc)) (hwl : wr.heap[Cb + 2]? = some (.cells Wc 47 (0, 0))) (hW : Wc.size = 65 ∧ Wc[27]? = some (.map (some (Cb + 1)))) (hge : w0.heap.size ≤ Cb) (hCB : Cb + 2 < B) (hm' : m ≤ 4096) :
    WS (wr.setCell ⟨Cb + 2, 29, none⟩ (.slice (some ⟨rg, 0, none⟩) m rc)) (Cb + 2) (Cb + 1) (Wc.setIfInBounds 29 (.slice (some ⟨rg, 0, none⟩) m rc)) hm (some ⟨rg, 0, none⟩) m rc xs ∧ Below w0.heap.size w0 (wr.setCell ⟨Cb + 2, 29, none⟩ (.slice (some ⟨rg, 0, none⟩) m rc)) := by
  have oth : ∀ k, k ≠ Cb + 2 → (wr.setCell ⟨Cb + 2, 29, none⟩ (.slice (some ⟨rg, 0, none⟩) m rc)).heap[k]? = wr.heap[k]? := fun k hk => Below.heap_setCell _ _ _ _ hk
  refine ⟨⟨heap_setCell_same wr (Cb + 2) 29 Wc 47 _ hwl, (Array.getElem?_setIfInBounds_ne (by omega)).trans hW.2, Array.getElem?_setIfInBounds_self_of_lt (by omega), h.map.keep (oth _ (by omega)), ?_, fun i hi => ?_, hm'⟩, h.base.setCell (p := ⟨Cb + 2, 29, none⟩) (by show w0.heap.size ≤ Cb + 2; omega) _⟩
  · obtain ⟨p, cap, e, ho, hp⟩ := own_ov h.ring
    cases e
    intro hn
    obtain ⟨ad, e, q⟩ := ho hn
    have := hp ad e
    refine ⟨ad, e, fun i hi => ?_⟩
    rw [World.cell?_of_block (w := wr) (by rw [add_block]; exact oth ad.block (by omega))]
    exact q i hi
  · obtain ⟨q, q1, q2⟩ := h.good i hi
    refine ⟨q, q1, q2.keepB fun k cs t hk ht => oth k (fun e => ?_)⟩
    rw [e, hwl] at hk
    cases hk
    rcases ht with ht | ht <;> exact absurd ht (by decide)
theorem MM.len {w : World} {M : Nat} {hm : Int → Option Nat} (h : MM w M hm) : ∃ k : Int, ∀ W : World, W.heap[M]? = w.heap[M]? → (Builtin.len_ #[35] 3 #[.map (some M)]).run Ybaf.prog W = .ok (.int .i64 k) W := by
  obtain ⟨es, clock, h1, _⟩ := h
  exact ⟨(es.size : Int), fun W hW => run_len_map (P := Ybaf.prog) (w := W) 35 3 M es clock (by kernel_rfl) (hW.trans h1)⟩
theorem neq51 (a : Addr) (W : World) : (binOp BinOp.neq 51 (.pointer (some a)) (.pointer (some a))).run Ybaf.prog W = .ok (.bool false) W := by
  obtain ⟨i55, hi55⟩ := Option.isSome_iff_exists.1 (show (Ybaf.prog.info? 55).isSome = true by kernel_rfl)
  exact Lib.run_neq_ptr_same (P := Ybaf.prog) W a Ybaf.underlying51 hi55
/-- The hosts kept, in the filling. -/
structure KV (w : World) (K m j : Nat) (hf : Nat → Nat) : Prop where
  ex : ∃ cs, w.heap[K]? = some (.cells cs 51 (0, 0)) ∧ cs.size = m ∧ ∀ i, i < j → cs[i]? = some (.pointer (some ⟨hf i, 0, none⟩))
theorem KV.push {w : World} {K m j : Nat} {hf : Nat → Nat} (h : KV w K m j hf) (hj : j < m) : KV (w.setCell ⟨K, j, none⟩ (.pointer (some ⟨hf j, 0, none⟩))) K m (j + 1) hf := by
  obtain ⟨cs, h1, h2, h3⟩ := h.ex
  refine ⟨_, heap_setCell_same w K j cs 51 _ h1, by simp [h2], fun i hi => ?_⟩
  by_cases hij : j = i
  · subst hij; rw [Array.getElem?_setIfInBounds_self_of_lt (by omega)]
  · rw [Array.getElem?_setIfInBounds_ne hij]; exact h3 i (by omega)
theorem KV.keep {w w' : World} {K m j : Nat} {hf : Nat → Nat} (h : KV w K m j hf) (hb : Below w.heap.size w w') : KV w' K m j hf := by
  obtain ⟨cs, h1, h2⟩ := h.ex
  exact ⟨cs, (hb.block K (Array.getElem?_eq_some_iff.1 h1).1).trans h1, h2⟩
theorem KV.start {w : World} {K m : Nat} {hf : Nat → Nat} (h : w.heap.size = K) : KV (w.alloc (.cells (madeCells #[.pointer none] m) 51)) K m 0 hf :=
  ⟨_, new_at h.symm, size_madeCells _ _, fun i hi => absurd hi (by omega)⟩
end Go.Proofs.YbulkdxyaFmt
