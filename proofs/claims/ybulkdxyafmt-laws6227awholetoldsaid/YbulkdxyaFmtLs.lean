/- The law's memory as her parts leave it. -/
import Derived.Test.YbulkdxyaFmtState
namespace Go.Proofs.YbulkdxyaFmt
open Go.RowKit
set_option linter.unusedSimpArgs false
set_option linter.unusedVariables false

/-- Behind the two rows. -/
structure LS (w0 w : World) (B H N m1 m3 : Nat) (R : Array Value) (S : Int → Bool) (id : Int) (n : Nat) (vv : Nat → Int) (pc : Option Addr) : Prop where
  ss : SS w0 w B H N m1 m3 R S id
  v : OV w (some ⟨B, 0, none⟩) n vv
  vc : OV w pc n vv
  ge : ∀ ad, pc = some ad → B ≤ ad.block
  lt : B < w.heap.size
theorem LS.keep {w0 w w' : World} {B H N m1 m3 : Nat} {R : Array Value} {S : Int → Bool} {id : Int} {n : Nat} {vv : Nat → Int} {pc : Option Addr} (h : LS w0 w B H N m1 m3 R S id n vv pc) (hb : Below w.heap.size w w') : LS w0 w' B H N m1 m3 R S id n vv pc :=
  ⟨h.ss.keep hb, h.v.keep hb, h.vc.keep hb, h.ge, Nat.lt_of_lt_of_le h.lt hb.size⟩
theorem LS.up {w0 w w' : World} {B H N m1 m3 : Nat} {R R' : Array Value} {S S' : Int → Bool} {id : Int} {n : Nat} {vv : Nat → Int} {pc : Option Addr} (h : LS w0 w B H N m1 m3 R S id n vv pc) (hs : SS w0 w' B H N m1 m3 R' S' id) (hu : Up B w w') : LS w0 w' B H N m1 m3 R' S' id n vv pc :=
  ⟨hs, h.v.up hu (fun ad e => by cases e; exact Nat.le_refl _), h.vc.up hu h.ge, h.ge, Nat.lt_of_lt_of_le h.lt hu.size⟩
theorem LS.set {w0 w : World} {B H N m1 m3 : Nat} {R : Array Value} {S : Int → Bool} {id : Int} {n : Nat} {vv : Nat → Int} {pc : Option Addr} (h : LS w0 w B H N m1 m3 R S id n vv pc) {i : Nat} (hi : i = 21 ∨ i = 254 ∨ i = 256) (v : Value) : LS w0 (w.setCell ⟨N, i, none⟩ v) B H N m1 m3 (R.setIfInBounds i v) S id n vv pc :=
  h.up (h.ss.set hi v).1 (h.ss.set hi v).2
theorem LS.dead {w0 w : World} {B H N m1 m3 : Nat} {R : Array Value} {S : Int → Bool} {id : Int} {n : Nat} {vv : Nat → Int} {pc : Option Addr} (h : LS w0 w B H N m1 m3 R S id n vv pc) (x : Int) :
    ∃ w', (Instr.mapUpdate 83 (.map (some m3)) (.int .u64 x) (.agg z8)).run Ybaf.prog w = .ok () w' ∧ LS w0 w' B H N m1 m3 R (fun y => S y || y == x) id n vv pc := by
  obtain ⟨w', h1, h2, h3, h4, h5⟩ := h.ss.dead x
  exact ⟨w', h1, h.up h2 h3⟩
theorem LS.as {w0 w : World} {B H N m1 m3 : Nat} {R : Array Value} {S S' : Int → Bool} {id : Int} {n : Nat} {vv : Nat → Int} {pc : Option Addr} (h : LS w0 w B H N m1 m3 R S id n vv pc) (e : ∀ y, S y = S' y) : LS w0 w B H N m1 m3 R S' id n vv pc := by
  have : S = S' := funext e
  subst this
  exact h
/-- The queries' row is filled above B: nothing below turns. -/
theorem LS.down {w0 w w' : World} {B H N m1 m3 Q : Nat} {R : Array Value} {S : Int → Bool} {id : Int} {n : Nat} {vv : Nat → Int} {pc : Option Addr} (h : LS w0 w B H N m1 m3 R S id n vv pc) (hQ : B < Q) (hp : ∀ ad, pc = some ad → 0 < n → ad.block < Q) (hb : Below Q w w') : LS w0 w' B H N m1 m3 R S id n vv pc := by
  refine ⟨h.ss.down (hb.mono (by omega)), fun hn => ?_, fun hn => ?_, h.ge, Nat.lt_of_lt_of_le h.lt hb.size⟩
  · obtain ⟨ad, e, q⟩ := h.v hn
    exact ⟨ad, e, fun i hi => (hb.cell (by rw [add_block]; cases e; exact hQ)).trans (q i hi)⟩
  · obtain ⟨ad, e, q⟩ := h.vc hn
    exact ⟨ad, e, fun i hi => (hb.cell (by rw [add_block]; exact hp ad e hn)).trans (q i hi)⟩
theorem LS.at {w0 w : World} {B H N m1 m3 : Nat} {R : Array Value} {S : Int → Bool} {id : Int} {n : Nat} {vv : Nat → Int} {pc : Option Addr} (h : LS w0 w B H N m1 m3 R S id n vv pc) (i : Nat) (hi : i < n) : w.cell? ⟨B, i, none⟩ = some (.int .u64 (vv i)) := by
  obtain ⟨ad, e, q⟩ := h.v (by omega)
  cases e
  have := q i hi
  have ha : (⟨B, 0, none⟩ : Addr).add i = ⟨B, i, none⟩ := by simp [Addr.add]; exact fun e => e.symm
  rwa [ha] at this

/-- Behind answerHeld. -/
structure FS (w0 w : World) (N B Q n k L : Nat) (vv : Nat → Int) (pc : Option Addr) (hc : Array Value) (ask key rf : Nat → Int) (lk : Nat → Bool) : Prop where
  base : Below w0.heap.size w0 w
  c21 : w.cell? ⟨N, 21, none⟩ = some (.slice (some ⟨B, 0, none⟩) n n)
  c256 : w.cell? ⟨N, 256, none⟩ = some (.slice (some ⟨Q, 0, none⟩) L k)
  v : OV w (some ⟨B, 0, none⟩) n vv
  vc : OV w pc n vv
  hq : HQ w Q k hc ask key rf lk
theorem FS.keep {w0 w w' : World} {N B Q n k L : Nat} {vv : Nat → Int} {pc : Option Addr} {hc : Array Value} {ask key rf : Nat → Int} {lk : Nat → Bool} (h : FS w0 w N B Q n k L vv pc hc ask key rf lk) (hb : Below w.heap.size w w') : FS w0 w' N B Q n k L vv pc hc ask key rf lk :=
  ⟨h.base.trans (hb.mono h.base.size), (hb.cell (lt_of_cell h.c21)).trans h.c21, (hb.cell (lt_of_cell h.c256)).trans h.c256, h.v.keep hb, h.vc.keep hb, ⟨(hb.block Q (Array.getElem?_eq_some_iff.1 h.hq.at_).1).trans h.hq.at_, h.hq.size, h.hq.each⟩⟩
/-- The host and the messages. -/
structure HS (w : World) (H b k : Nat) (id : Int) (V : Value) (ask key rf : Nat → Int) (lk : Nat → Bool) (ms : List Value) : Prop where
  host : HX w b H k ((List.range k).map fun i => .int .u64 (ask i)) ms
  msgs : ∀ i, i < k → ∃ mb, ms[i]? = some (.pointer (some ⟨mb, 0, none⟩)) ∧ w.heap[mb]? = some (.cells (msg id (lk i) (rf i) (key i) V) 112 (0, 0))
theorem HS.keep {w w' : World} {H b k : Nat} {id : Int} {V : Value} {ask key rf : Nat → Int} {lk : Nat → Bool} {ms : List Value} (h : HS w H b k id V ask key rf lk ms) (hb : Below w.heap.size w w') : HS w' H b k id V ask key rf lk ms :=
  ⟨h.host.keep hb, fun i hi => by obtain ⟨mb, h1, h2⟩ := h.msgs i hi; exact ⟨mb, h1, (hb.block mb (Array.getElem?_eq_some_iff.1 h2).1).trans h2⟩⟩

theorem own_at {w : World} {B n j : Nat} {e : TypeId} {v u : Value} {xs : List Value} (h : w.ownsRow B e 1 v n xs) (hj : j < n) (hu : xs[j]? = some u) : ∃ g cap, v = .slice (some ⟨g, 0, none⟩) n cap ∧ w.cell? ⟨g, j, none⟩ = some u := by
  obtain ⟨h1, h2⟩ := h
  rcases h2 with ⟨rfl, rfl⟩ | ⟨g, cap, cur, rfl, hB, h3, h4, h5, h6, h7⟩
  · omega
  · refine ⟨g, cap, rfl, cell_of h3 ?_⟩
    have := congrArg (fun l => l[j]?) h7
    simp [List.getElem?_take, hj] at this
    rw [this]
    exact hu
/-- What the host holds at j. -/
theorem HS.at {w : World} {H b k j : Nat} {id : Int} {V : Value} {ask key rf : Nat → Int} {lk : Nat → Bool} {ms : List Value} (h : HS w H b k id V ask key rf lk ms) (hj : j < k) :
    ∃ tb ct rb cm mb, w.cell? ⟨H, 0, none⟩ = some (.slice (some ⟨tb, 0, none⟩) k ct) ∧ w.cell? ⟨H, 1, none⟩ = some (.slice (some ⟨rb, 0, none⟩) k cm) ∧ w.cell? ⟨tb, j, none⟩ = some (.int .u64 (ask j)) ∧ w.cell? ⟨rb, j, none⟩ = some (.pointer (some ⟨mb, 0, none⟩)) ∧ w.heap[mb]? = some (.cells (msg id (lk j) (rf j) (key j) V) 112 (0, 0)) := by
  obtain ⟨tv, mv, h1, h2, h3⟩ := h.host.ex
  obtain ⟨mb, q1, q2⟩ := h.msgs j hj
  obtain ⟨tb, ct, rfl, r1⟩ := own_at h2 hj (u := .int .u64 (ask j)) (by simp [List.getElem?_range hj])
  obtain ⟨rb, cm, rfl, r2⟩ := own_at h3 hj q1
  exact ⟨tb, ct, rb, cm, mb, cell_of h1 rfl, cell_of h1 rfl, r1, r2, q2⟩

theorem held_after {w0 w wr w' : World} {B H N m1 m3 Q n k L : Nat} {R : Array Value} {S : Int → Bool} {id : Int} {vv : Nat → Int} {pc : Option Addr} {hc : Array Value} {on : Bool} {ask key rf : Nat → Int} {lk : Nat → Bool} {ms : List Value}
    (h : LS w0 w B H N m1 m3 R S id n vv pc) (h21 : R[21]? = some (.slice (some ⟨B, 0, none⟩) n n)) (hq : HQ w Q k hc ask key rf lk)
    (ha : AI w wr H Q k k hc on id (.slice (some ⟨B, 0, none⟩) n n) ask key rf lk ms) (hs : BStep 97 N (R.setIfInBounds 256 (.slice (some ⟨Q, 0, none⟩) L k)) wr w') :
    FS w0 w' N B Q n k L vv pc hc ask key rf lk ∧ (on = false → w'.heap[H]? = some (.cells #[.slice none 0 0, .slice none 0 0] 69 (0, 0))) ∧ (on = true → HS w' H w.heap.size k id (.slice (some ⟨B, 0, none⟩) n n) ask key rf lk ms) := by
  have hN := h.ss.lt.2.1
  have hH := h.ss.lt.1
  have hB := h.lt
  have hbs := h.ss.bs
  have hsz := ha.sim.sz
  obtain ⟨a1, a2, a3, a4, a5⟩ := h.ss.apart
  have keepB : ∀ j, j < w.heap.size → j ≠ H → j ≠ N → w'.heap[j]? = w.heap[j]? := fun j hj h1 h2 => (hs.other j (by omega) h2).trans (ha.sim.old j hj h1)
  have hQl : Q < w.heap.size := (Array.getElem?_eq_some_iff.1 hq.at_).1
  have hQH : Q ≠ H := fun e => by have h1 := hq.at_; rw [e, h.ss.host] at h1; cases h1
  have hQN : Q ≠ N := fun e => by have h1 := hq.at_; rw [e, h.ss.nx.at_] at h1; cases h1
  have hN2 : (R.setIfInBounds 256 (.slice (some ⟨Q, 0, none⟩) L k))[256]? = some (.slice (some ⟨Q, 0, none⟩) L k) := by
    rw [Array.getElem?_setIfInBounds_self_of_lt]
    rw [h.ss.nx.nf.size]; omega
  have ovk : ∀ {p : Option Addr}, OV w p n vv → (∀ ad, p = some ad → B ≤ ad.block) → OV w' p n vv := fun {p} ho hp hn => by
    obtain ⟨ad, e, q⟩ := ho hn
    have := hp ad e
    refine ⟨ad, e, fun i hi => ?_⟩
    have hl := lt_of_cell (q i hi)
    rw [add_block] at hl
    rw [World.cell?_of_block (w := w) (by rw [add_block]; exact keepB ad.block hl (by omega) (by omega))]
    exact q i hi
  refine ⟨⟨?_, ?_, hs.cell hN2, ovk h.v (fun ad e => by cases e; exact Nat.le_refl _), ovk h.vc h.ge, ⟨(keepB Q hQl hQH hQN).trans hq.at_, hq.size, hq.each⟩⟩, fun e => ?_, fun e => ⟨?_, fun i hi => ?_⟩⟩
  · have hg := h.ss.ge
    have hb1 : Below w0.heap.size w wr := ⟨ha.sim.os, ha.sim.tape, ha.sim.out, hsz, fun j hj => ha.sim.old j (by omega) (by omega)⟩
    exact (h.ss.base.trans hb1).trans (hs.below _ hg.2.1)
  · refine hs.cell ?_
    rw [Array.getElem?_setIfInBounds_ne (by omega)]
    exact h21
  · exact (hs.other H (by omega) (Ne.symm a1)).trans ((ha.off e).trans h.ss.host)
  · obtain ⟨tv, mv, q1, q2, q3⟩ := (ha.host e).ex
    exact ⟨⟨tv, mv, (hs.other H (by omega) (Ne.symm a1)).trans q1, own_of_block q2 (fun g hg => hs.other g (q2.lt g hg).2 (by have := (q2.lt g hg).1; omega)), own_of_block q3 (fun g hg => hs.other g (q3.lt g hg).2 (by have := (q3.lt g hg).1; omega))⟩, by omega⟩
  · obtain ⟨mb, r1, r2, r3⟩ := ha.msgs e i hi
    exact ⟨mb, r1, (hs.other mb (Array.getElem?_eq_some_iff.1 r3).1 (by omega)).trans r3⟩

theorem inf107 : (Ybaf.prog.info? 107).map (fun i => (i.zero, i.size, i.bytes)) = some (some (.agg #[.int .u64 0, .int .u64 0, .int .u64 0, .bool false]), 4, 32) := by kernel_rfl
theorem make_ids (n : Nat) (hn : n ≤ 4096) (W : World) : (Instr.makeSlice 43 (.int .i64 (n : Int)) (.int .i64 (n : Int))).run Ybaf.prog W = .ok (.slice (some ⟨W.heap.size, 0, none⟩) n n) (W.alloc (.cells (madeCells #[.int .u64 0] n) 50)) := by
  obtain ⟨i50, hi50, hz0, hz1, hz2⟩ := info_parts inf50'
  exact run_make_row (P := Ybaf.prog) 43 50 i50 (.int .u64 0) Ybaf.underlying43 hi50 hz0 hz1 rfl .i64 .i64 n (by rw [show i50.bytes = 8 from hz2]; omega) (by omega) W
theorem make_held (k : Nat) (hk : k ≤ 65536) : ∃ Zc : Array Value, Zc.size = k * 4 ∧ ∀ W : World, (Instr.makeSlice 95 (.int .i64 (k : Int)) (.int .i64 (k : Int))).run Ybaf.prog W = .ok (.slice (some ⟨W.heap.size, 0, none⟩) k k) (W.alloc (.cells Zc 107)) := by
  obtain ⟨i107, hi107, hz0, hz1, hz2⟩ := info_parts inf107
  refine ⟨madeCells (Value.agg #[.int .u64 0, .int .u64 0, .int .u64 0, .bool false]).cells (k * 4), size_madeCells _ _, fun W => ?_⟩
  have h := run_make (P := Ybaf.prog) W 95 107 i107 _ Ybaf.underlying95 hi107 hz0 .i64 .i64 k k (by omega) (by omega) (by rw [show i107.bytes = 32 from hz2]; omega) (by omega)
  rw [hz1] at h
  simpa using h
theorem rv_start {W : World} {n : Nat} {vv : Nat → Int} {V : Nat} (h : W.heap.size = V) : RV (W.alloc (.cells (madeCells #[.int .u64 0] n) 50)) V n 0 vv :=
  ⟨_, new_at h.symm, size_madeCells _ _, fun i hi => absurd hi (by omega)⟩
theorem qv_start {W : World} {k : Nat} {Zc : Array Value} {ask key rf : Nat → Int} {lk : Nat → Bool} {Q : Nat} (hz : Zc.size = k * 4) (h : W.heap.size = Q) : QV (W.alloc (.cells Zc 107)) Q k 0 ask key rf lk :=
  ⟨_, new_at h.symm, hz, fun i hi => absurd hi (by omega)⟩
end Go.Proofs.YbulkdxyaFmt
