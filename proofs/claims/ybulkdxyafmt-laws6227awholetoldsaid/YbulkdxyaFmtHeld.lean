/- answerHeld: the plain side. -/
import Derived.Test.YbulkdxyaFmtSendN
namespace Go.Proofs.YbulkdxyaFmt
open Go.RowKit
set_option linter.unusedSimpArgs false
set_option linter.unusedVariables false

/-- Of what lay below Bh only block H may have turned. -/
structure Sim (w0 wr : World) (Bh H : Nat) : Prop where
  old : ∀ i, i < Bh → i ≠ H → wr.heap[i]? = w0.heap[i]?
  sz : Bh ≤ wr.heap.size
  os : wr.os = w0.os
  tape : wr.tape = w0.tape
  out : wr.output = w0.output
theorem Sim.refl (w : World) (H : Nat) : Sim w w w.heap.size H := ⟨fun _ _ _ => rfl, Nat.le_refl _, rfl, rfl, rfl⟩
theorem Sim.step {w0 wr w' : World} {Bh H : Nat} (h : Sim w0 wr Bh H) (hb : Below wr.heap.size wr w') : Sim w0 w' Bh H :=
  ⟨fun i hi hne => (hb.block i (Nat.lt_of_lt_of_le hi h.sz)).trans (h.old i hi hne), Nat.le_trans h.sz hb.size, hb.os.trans h.os, hb.tape.trans h.tape, hb.output.trans h.out⟩
theorem Sim.cell {w0 wr : World} {Bh H : Nat} (h : Sim w0 wr Bh H) {a : Addr} {v : Value} (hc : w0.cell? a = some v) (hlt : a.block < Bh) (hne : a.block ≠ H) : wr.cell? a = some v := by
  rw [World.cell?_of_block (w := w0) (h.old _ hlt hne)]; exact hc
theorem Sim.nx {w0 wr : World} {Bh H N m1 m3 : Nat} {R : Array Value} {id : Int} {ht : TypeId} {hv : Value} (h : Sim w0 wr Bh H) (hN : NX w0 N R id ht hv m1 m3) (hlt : N < Bh) (hne : N ≠ H) : NX wr N R id ht hv m1 m3 := ⟨(h.old N hlt hne).trans hN.at_, hN.nf⟩
theorem Sim.ov {w0 wr : World} {Bh H : Nat} {vp : Option Addr} {n : Nat} {vv : Nat → Int} (h : Sim w0 wr Bh H) (ho : OV w0 vp n vv) (hlt : ∀ ad, vp = some ad → ad.block < Bh ∧ ad.block ≠ H) : OV wr vp n vv := fun hn => by
  obtain ⟨ad, e, q⟩ := ho hn
  have := hlt ad e
  exact ⟨ad, e, fun i hi => h.cell (q i hi) (by rw [add_block]; exact this.1) (by rw [add_block]; exact this.2)⟩

/-- All that a round's middle needs of the node. -/
structure NW (w : World) (N m1 m3 : Nat) (R : Array Value) (S : Int → Bool) (id : Int) (ht : TypeId) (hv : Value) (vp : Option Addr) (n c : Nat) (vv : Nat → Int) : Prop where
  nx : NX w N R id ht hv m1 m3
  pr : w.heap[m1]? = some (.map #[] 0)
  dm : DMap w m3 S
  vw : R[21]? = some (.slice vp n c)
  ov : OV w vp n vv
  le : n ≤ 1000000
theorem NW.keep {w w' : World} {N m1 m3 : Nat} {R : Array Value} {S : Int → Bool} {id : Int} {ht : TypeId} {hv : Value} {vp : Option Addr} {n c : Nat} {vv : Nat → Int} (h : NW w N m1 m3 R S id ht hv vp n c vv) (hb : Below w.heap.size w w') : NW w' N m1 m3 R S id ht hv vp n c vv :=
  ⟨h.nx.keep hb, (hb.block m1 (Array.getElem?_eq_some_iff.1 h.pr).1).trans h.pr, h.dm.keep (hb.block _ h.dm.lt), h.vw, h.ov.keep hb, h.le⟩
theorem Sim.nw {w0 wr : World} {Bh H N m1 m3 : Nat} {R : Array Value} {S : Int → Bool} {id : Int} {ht : TypeId} {hv : Value} {vp : Option Addr} {n c : Nat} {vv : Nat → Int} (h : Sim w0 wr Bh H) (hw : NW w0 N m1 m3 R S id ht hv vp n c vv) (hN : N < Bh ∧ N ≠ H) (h1 : m1 < Bh ∧ m1 ≠ H) (h3 : m3 < Bh ∧ m3 ≠ H) (hlt : ∀ ad, vp = some ad → ad.block < Bh ∧ ad.block ≠ H) : NW wr N m1 m3 R S id ht hv vp n c vv :=
  ⟨h.nx hw.nx hN.1 hN.2, (h.old m1 h1.1 h1.2).trans hw.pr, hw.dm.keep (h.old m3 h3.1 h3.2), hw.vw, h.ov hw.ov hlt, hw.le⟩
/-- The contract of the two calls of a round, in whatever later world. -/
theorem mid_closest {w W : World} {N m1 m3 : Nat} {R : Array Value} {S : Int → Bool} {id : Int} {ht : TypeId} {hv : Value} {vp : Option Addr} {n c : Nat} {vv : Nat → Int} (h : NW w N m1 m3 R S id ht hv vp n c vv) (hb : Below w.heap.size w W) (key : Int) :
    Calls Ybaf.prog 23 #[.pointer (some ⟨N, 0, none⟩), .int .u64 key, .bool true, .pointer none] W fun e w' => ∃ bb, e = .returned (.slice (some ⟨bb, 0, none⟩) 1 1) ∧ w'.heap[bb]? = some (.cells #[.int .u64 id] 50 (0, 0)) ∧ Below w.heap.size w w' ∧ Below W.heap.size W w' :=
  (closest_calls N R id key ht hv m1 m3 W (h.keep hb).nx).mono fun e w' ⟨bb, h1, h2, h3⟩ => ⟨bb, h1, h2, hb.trans (h3.mono hb.size), h3⟩
theorem mid_answers {w W : World} {N m1 m3 bb : Nat} {R : Array Value} {S : Int → Bool} {id : Int} {ht : TypeId} {hv : Value} {vp : Option Addr} {n c : Nat} {vv : Nat → Int} (h : NW w N m1 m3 R S id ht hv vp n c vv) (hb : Below w.heap.size w W) (hbb : W.heap[bb]? = some (.cells #[.int .u64 id] 50 (0, 0))) (key : Int) :
    Calls Ybaf.prog 22 #[.pointer (some ⟨N, 0, none⟩), .int .u64 key, .int .i64 0, .slice (some ⟨bb, 0, none⟩) 1 1] W fun e w' => ∃ v, e = .returned (.tuple #[v, .agg #[.int .u64 id, .slice vp n c, .int .i64 0, .int .i64 0, .bool true], .bool (!S id || al S vv n)]) ∧ Below w.heap.size w w' ∧ Below W.heap.size W w' :=
  let hk := h.keep hb
  (answers_calls N m1 m3 bb R S id key ht hv vp n c vv W hk.nx hk.pr hk.dm hk.vw hk.ov hk.le hbb).mono fun e w' ⟨v, h1, h2⟩ => ⟨v, h1, hb.trans (h2.mono hb.size), h2⟩

abbrev arc0 : Array Value := #[.int .u64 0, .slice none 0 0, .int .i64 0, .int .i64 0, .bool false]
theorem arc_zero {w : World} {g : Nat} (h : w.heap[g]? = some (.cells arc0 123 (0, 0))) : (w.cell? ⟨g, 0, none⟩ = some (.int .u64 0) ∧ w.cell? ⟨g, 1, none⟩ = some (.slice none 0 0) ∧ w.cell? ⟨g, 2, none⟩ = some (.int .i64 0) ∧ w.cell? ⟨g, 3, none⟩ = some (.int .i64 0) ∧ w.cell? ⟨g, 4, none⟩ = some (.bool false)) ∧ w.frozen? ⟨g, 0, none⟩ = false ∧ w.frozen? ⟨g, 1, none⟩ = false ∧ w.frozen? ⟨g, 2, none⟩ = false ∧ w.frozen? ⟨g, 3, none⟩ = false ∧ w.frozen? ⟨g, 4, none⟩ = false :=
  ⟨⟨cell_of h rfl, cell_of h rfl, cell_of h rfl, cell_of h rfl, cell_of h rfl⟩, frozen_of h, frozen_of h, frozen_of h, frozen_of h, frozen_of h⟩
/-- The held queries. -/
structure HQ (w : World) (hb k : Nat) (hc : Array Value) (ask key rf : Nat → Int) (lk : Nat → Bool) : Prop where
  at_ : w.heap[hb]? = some (.cells hc 107 (0, 0))
  size : hc.size = k * 4
  each : ∀ i, i < k → hc[i * 4]? = some (.int .u64 (ask i)) ∧ hc[i * 4 + 1]? = some (.int .u64 (key i)) ∧ hc[i * 4 + 2]? = some (.int .u64 (rf i)) ∧ hc[i * 4 + 3]? = some (.bool (lk i))
theorem elem95 : Ybaf.prog.elem 95 = 107 := by kernel_rfl
theorem size107 (w : World) : (sizeOf 107).run Ybaf.prog w = .ok 4 w := by kernel_rfl
theorem cut95 (hb k : Nat) (w : World) : (Instr.slice 95 (.slice (some ⟨hb, 0, none⟩) k k) none (some (.int .i64 0)) none).run Ybaf.prog w = .ok (.slice (some ⟨hb, 0, none⟩) 0 k) w := by
  rw [run_slice_h w 95 (some ⟨hb, 0, none⟩) k k (show Ybaf.prog.underlying 95 = some (.slice (Ybaf.prog.elem 95)) by kernel_rfl) .i64 0 (by omega) (by omega)]
  rw [elem95, size107]
  simp [Result.andThen_ok, sliced, Addr.add]

/-- What a round leaves of the host and of the messages. -/
structure AI (w wr : World) (H hb k j : Nat) (hc : Array Value) (on : Bool) (id : Int) (V : Value) (ask key rf : Nat → Int) (lk : Nat → Bool) (ms : List Value) : Prop where
  sim : Sim w wr w.heap.size H
  off : on = false → wr.heap[H]? = w.heap[H]?
  host : on = true → HX wr w.heap.size H j ((List.range j).map fun i => .int .u64 (ask i)) ms
  msgs : on = true → ∀ i, i < j → ∃ mb, ms[i]? = some (.pointer (some ⟨mb, 0, none⟩)) ∧ w.heap.size ≤ mb ∧ wr.heap[mb]? = some (.cells (msg id (lk i) (rf i) (key i) V) 112 (0, 0))
theorem AI.keep {w wr w' : World} {H hb k j : Nat} {hc : Array Value} {on : Bool} {id : Int} {V : Value} {ask key rf : Nat → Int} {lk : Nat → Bool} {ms : List Value} (h : AI w wr H hb k j hc on id V ask key rf lk ms) (hb' : Below wr.heap.size wr w') (hH : H < w.heap.size) : AI w w' H hb k j hc on id V ask key rf lk ms := by
  refine ⟨h.sim.step hb', fun e => (hb'.block H (Nat.lt_of_lt_of_le hH h.sim.sz)).trans (h.off e), fun e => (h.host e).keep hb', fun e i hi => ?_⟩
  obtain ⟨mb, h1, h2, h3⟩ := h.msgs e i hi
  exact ⟨mb, h1, h2, (hb'.block mb (Array.getElem?_eq_some_iff.1 h3).1).trans h3⟩
theorem AI.skip {w wr : World} {H hb k j : Nat} {hc : Array Value} {id : Int} {V : Value} {ask key rf : Nat → Int} {lk : Nat → Bool} {ms : List Value} (h : AI w wr H hb k j hc false id V ask key rf lk ms) : AI w wr H hb k (j + 1) hc false id V ask key rf lk ms :=
  ⟨h.sim, h.off, fun e => (by cases e), fun e => (by cases e)⟩
theorem setCell_same {w : World} {g i : Nat} {cs : Array Value} {t : TypeId} {v : Value} (h : w.heap[g]? = some (.cells cs t (0, 0))) (hv : cs[i]? = some v) : w.setCell ⟨g, i, none⟩ v = w := by
  have hs : (w.setCell ⟨g, i, none⟩ v).heap = w.heap := by
    apply Array.ext_getElem?
    intro j
    by_cases hj : j = g
    · subst hj
      rw [heap_setCell_same w j i cs t v h, h]
      have : cs.setIfInBounds i v = cs := by
        apply Array.ext_getElem?
        intro m
        by_cases hm : i = m
        · subst hm
          rw [Array.getElem?_setIfInBounds_self_of_lt (Array.getElem?_eq_some_iff.1 hv).1, hv]
        · rw [Array.getElem?_setIfInBounds_ne hm]
      rw [this]
    · exact Below.heap_setCell _ _ _ _ hj
  have : w.setCell ⟨g, i, none⟩ v = { w with heap := (w.setCell ⟨g, i, none⟩ v).heap } := rfl
  rw [this, hs]
theorem AI.push {w wr w2 w3 : World} {H hb k j mb : Nat} {hc : Array Value} {id : Int} {V : Value} {ask key rf : Nat → Int} {lk : Nat → Bool} {ms : List Value} (h : AI w wr H hb k j hc true id V ask key rf lk ms) (hb' : Below wr.heap.size wr w2) (hH : H < w.heap.size) (hm : w2.heap[mb]? = some (.cells (msg id (lk j) (rf j) (key j) V) 112 (0, 0))) (hmb : w.heap.size ≤ mb)
    (hs : HX w3 w.heap.size H (j + 1) (((List.range j).map fun i => .int .u64 (ask i)) ++ [.int .u64 (ask j)]) (ms ++ [.pointer (some ⟨mb, 0, none⟩)]) ∧ w2.heap.size ≤ w3.heap.size ∧ (∀ i, i < w.heap.size → i ≠ H → w3.heap[i]? = w2.heap[i]?) ∧ (w3.os = w2.os ∧ w3.tape = w2.tape ∧ w3.output = w2.output) ∧ (∀ i, w.heap.size ≤ i → i < w2.heap.size → (∀ cs t fr, w2.heap[i]? = some (.cells cs t fr) → t ≠ 50 ∧ t ≠ 109) → w3.heap[i]? = w2.heap[i]?)) (hlen : ms.length = j) :
    AI w w3 H hb k (j + 1) hc true id V ask key rf lk (ms ++ [.pointer (some ⟨mb, 0, none⟩)]) := by
  obtain ⟨s1, s2, s3, s4, s5⟩ := hs
  have hk := h.keep hb' hH
  have hkeep : ∀ m c, w2.heap[m]? = some (.cells c 112 (0, 0)) → w.heap.size ≤ m → w3.heap[m]? = some (.cells c 112 (0, 0)) := fun m c hm' hle =>
    (s5 m hle (Array.getElem?_eq_some_iff.1 hm').1 (fun cs t fr hx => by rw [hm'] at hx; cases hx; decide)).trans hm'
  refine ⟨⟨fun i hi hne => (s3 i hi hne).trans (hk.sim.old i hi hne), Nat.le_trans hk.sim.sz s2, s4.1.trans hk.sim.os, s4.2.1.trans hk.sim.tape, s4.2.2.trans hk.sim.out⟩, fun e => (by cases e), fun _ => ?_, fun _ i hi => ?_⟩
  · rw [List.range_succ, List.map_append]
    exact s1
  · by_cases hij : i < j
    · obtain ⟨m, h1, h2, h3⟩ := hk.msgs rfl i hij
      exact ⟨m, by rw [List.getElem?_append_left (by omega)]; exact h1, h2, hkeep m _ h3 h2⟩
    · obtain rfl : i = j := by omega
      exact ⟨mb, by rw [List.getElem?_append_right (by omega), hlen]; simp, hmb, hkeep mb _ hm hmb⟩
/-- How many queries are kept. -/
def keepN (live : Bool) (k : Nat) : Nat := if live = true then 0 else k
theorem setQ {W : World} {hb j : Nat} {hc : Array Value} {a b c d : Value} (hat : W.heap[hb]? = some (.cells hc 107 (0, 0))) (h0 : hc[j * 4]? = some a) (h1 : hc[j * 4 + 1]? = some b) (h2 : hc[j * 4 + 2]? = some c) (h3 : hc[j * 4 + 3]? = some d) :
    (((W.setCell ⟨hb, j * 4, none⟩ a).setCell ⟨hb, j * 4 + 1, none⟩ b).setCell ⟨hb, j * 4 + 2, none⟩ c).setCell ⟨hb, j * 4 + 3, none⟩ d = W := by
  rw [setCell_same hat h0, setCell_same hat h1, setCell_same hat h2, setCell_same hat h3]
end Go.Proofs.YbulkdxyaFmt
