/- The law's memory: the plain side. -/
import Derived.Test.YbulkdxyaFmtHeld
import Derived.Test.YbulkdxyaFmtSmall
namespace Go.Proofs.YbulkdxyaFmt
open Go.RowKit
set_option linter.unusedSimpArgs false
set_option linter.unusedVariables false

/-- From B on nothing has turned. -/
structure Up (B : Nat) (w w' : World) : Prop where
  same : ∀ j, B ≤ j → j < w.heap.size → w'.heap[j]? = w.heap[j]?
  size : w.heap.size ≤ w'.heap.size
theorem Up.of_below {B : Nat} {w w' : World} (h : Below w.heap.size w w') : Up B w w' := ⟨fun j _ hj => h.block j hj, h.size⟩
theorem Up.trans {B : Nat} {a b c : World} (h : Up B a b) (h' : Up B b c) : Up B a c := ⟨fun j hB hj => (h'.same j hB (Nat.lt_of_lt_of_le hj h.size)).trans (h.same j hB hj), Nat.le_trans h.size h'.size⟩
theorem OV.up {B n : Nat} {w w' : World} {p : Option Addr} {vv : Nat → Int} (h : OV w p n vv) (hu : Up B w w') (hp : ∀ ad, p = some ad → B ≤ ad.block) : OV w' p n vv := fun hn => by
  obtain ⟨ad, e, q⟩ := h hn
  refine ⟨ad, e, fun i hi => ?_⟩
  have := lt_of_cell (q i hi)
  rw [add_block] at this
  rw [World.cell?_of_block (w := w) (hu.same (ad.add i).block (by rw [add_block]; exact hp ad e) (by rw [add_block]; exact this))]
  exact q i hi
theorem Up.at {B g : Nat} {w w' : World} {o : Obj} (hu : Up B w w') (hB : B ≤ g) (h : w.heap[g]? = some o) : w'.heap[g]? = some o := (hu.same g hB (Array.getElem?_eq_some_iff.1 h).1).trans h

/-- The node, its two maps and its host. -/
structure SS (w0 w : World) (B H N m1 m3 : Nat) (R : Array Value) (S : Int → Bool) (id : Int) : Prop where
  nx : NX w N R id 66 (.pointer (some ⟨H, 0, none⟩)) m1 m3
  pr : w.heap[m1]? = some (.map #[] 0)
  dm : DMap w m3 S
  host : w.heap[H]? = some (.cells #[.slice none 0 0, .slice none 0 0] 69 (0, 0))
  base : Below w0.heap.size w0 w
  lt : H < B ∧ N < B ∧ m1 < B ∧ m3 < B
  ge : w0.heap.size ≤ H ∧ w0.heap.size ≤ N ∧ w0.heap.size ≤ m1 ∧ w0.heap.size ≤ m3
  ne : m1 ≠ m3
  bs : B ≤ w.heap.size
theorem SS.apart {w0 w : World} {B H N m1 m3 : Nat} {R : Array Value} {S : Int → Bool} {id : Int} (h : SS w0 w B H N m1 m3 R S id) : N ≠ H ∧ N ≠ m1 ∧ N ≠ m3 ∧ m1 ≠ H ∧ m3 ≠ H := by
  obtain ⟨es, cl, h3, _⟩ := h.dm
  have h1 := h.nx.at_
  have h2 := h.pr
  have h4 := h.host
  refine ⟨fun e => ?_, fun e => ?_, fun e => ?_, fun e => ?_, fun e => ?_⟩
  · rw [e, h4] at h1; cases h1
  · rw [e, h2] at h1; cases h1
  · rw [e, h3] at h1; cases h1
  · rw [e, h4] at h2; cases h2
  · rw [e, h4] at h3; cases h3
theorem SS.down {w0 w w' : World} {B H N m1 m3 : Nat} {R : Array Value} {S : Int → Bool} {id : Int} (h : SS w0 w B H N m1 m3 R S id) (hb : Below B w w') : SS w0 w' B H N m1 m3 R S id :=
  have hB : w0.heap.size ≤ B := by have := h.ge.1; have := h.lt.1; omega
  ⟨⟨(hb.block N h.lt.2.1).trans h.nx.at_, h.nx.nf⟩, (hb.block m1 h.lt.2.2.1).trans h.pr, h.dm.keep (hb.block m3 h.lt.2.2.2), (hb.block H h.lt.1).trans h.host, h.base.trans (hb.mono hB), h.lt, h.ge, h.ne, Nat.le_trans h.bs hb.size⟩
theorem SS.keep {w0 w w' : World} {B H N m1 m3 : Nat} {R : Array Value} {S : Int → Bool} {id : Int} (h : SS w0 w B H N m1 m3 R S id) (hb : Below w.heap.size w w') : SS w0 w' B H N m1 m3 R S id := h.down (hb.mono h.bs)
theorem NF.set {R : Array Value} {id c : Int} {ht : TypeId} {hv : Value} {m1 m3 i : Nat} (h : NF R id c ht hv m1 m3) (hi : i = 21 ∨ i = 254 ∨ i = 256) (v : Value) : NF (R.setIfInBounds i v) id c ht hv m1 m3 := by
  have g : ∀ j, i ≠ j → (R.setIfInBounds i v)[j]? = R[j]? := fun j hj => Array.getElem?_setIfInBounds_ne hj
  refine ⟨by simp [h.size], ?_, ?_, ?_, ?_, ?_, ?_, ?_, ?_, ?_, fun k hk => ?_⟩
  · rw [g _ (by omega)]; exact h.id0
  · rw [g _ (by omega)]; exact h.c2
  · rw [g _ (by omega)]; exact h.host
  · rw [g _ (by omega)]; exact h.active
  · rw [g _ (by omega)]; exact h.contacts
  · rw [g _ (by omega)]; exact h.members
  · rw [g _ (by omega)]; exact h.probing
  · rw [g _ (by omega)]; exact h.dead
  · rw [g _ (by omega)]; exact h.views
  · rw [g _ (by omega), g _ (by omega), g _ (by omega)]; exact h.fingers k hk
theorem SS.set {w0 w : World} {B H N m1 m3 : Nat} {R : Array Value} {S : Int → Bool} {id : Int} (h : SS w0 w B H N m1 m3 R S id) {i : Nat} (hi : i = 21 ∨ i = 254 ∨ i = 256) (v : Value) :
    SS w0 (w.setCell ⟨N, i, none⟩ v) B H N m1 m3 (R.setIfInBounds i v) S id ∧ Up B w (w.setCell ⟨N, i, none⟩ v) := by
  obtain ⟨a1, a2, a3, a4, a5⟩ := h.apart
  have oth : ∀ j, j ≠ N → (w.setCell ⟨N, i, none⟩ v).heap[j]? = w.heap[j]? := fun j hj => Below.heap_setCell _ _ _ _ hj
  refine ⟨⟨⟨heap_setCell_same w N i R 97 v h.nx.at_, h.nx.nf.set hi v⟩, (oth m1 (Ne.symm a2)).trans h.pr, h.dm.keep (oth m3 (Ne.symm a3)), (oth H (Ne.symm a1)).trans h.host, h.base.setCell (p := ⟨N, i, none⟩) h.ge.2.1 v, h.lt, h.ge, h.ne, by rw [World.size_setCell]; exact h.bs⟩, fun j hB _ => oth j (by have := h.lt.2.1; omega), by rw [World.size_setCell]; exact Nat.le_refl _⟩
theorem SS.dead {w0 w : World} {B H N m1 m3 : Nat} {R : Array Value} {S : Int → Bool} {id : Int} (h : SS w0 w B H N m1 m3 R S id) (x : Int) :
    ∃ w', (Instr.mapUpdate 83 (.map (some m3)) (.int .u64 x) (.agg z8)).run Ybaf.prog w = .ok () w' ∧ SS w0 w' B H N m1 m3 R (fun y => S y || y == x) id ∧ Up B w w' ∧ w'.heap.size = w.heap.size ∧ ∀ j, j ≠ m3 → w'.heap[j]? = w.heap[j]? := by
  obtain ⟨a1, a2, a3, a4, a5⟩ := h.apart
  obtain ⟨w', h1, h2, h3, h4, h5⟩ := upd_dead h.dm x
  exact ⟨w', h1, ⟨⟨(h3 N a3).trans h.nx.at_, h.nx.nf⟩, (h3 m1 h.ne).trans h.pr, h2, (h3 H (Ne.symm a5)).trans h.host, h.base.trans (h5 _ h.ge.2.2.2), h.lt, h.ge, h.ne, by rw [h4]; exact h.bs⟩, ⟨fun j hB _ => h3 j (by have := h.lt.2.2.2; omega), by omega⟩, h4, h3⟩
theorem SS.cell {w0 w : World} {B H N m1 m3 : Nat} {R : Array Value} {S : Int → Bool} {id : Int} (h : SS w0 w B H N m1 m3 R S id) {i : Nat} {v : Value} (hi : R[i]? = some v) : w.cell? ⟨N, i, none⟩ = some v := h.nx.cell hi
theorem SS.fz {w0 w : World} {B H N m1 m3 : Nat} {R : Array Value} {S : Int → Bool} {id : Int} (h : SS w0 w B H N m1 m3 R S id) (i : Nat) : w.frozen? ⟨N, i, none⟩ = false := frozen_of h.nx.at_

/-- A row in the filling. -/
structure RV (w : World) (V n j : Nat) (vv : Nat → Int) : Prop where
  ex : ∃ cs, w.heap[V]? = some (.cells cs 50 (0, 0)) ∧ cs.size = n ∧ ∀ i, i < j → cs[i]? = some (.int .u64 (vv i))
theorem RV.push {w : World} {V n j : Nat} {vv : Nat → Int} (h : RV w V n j vv) (hj : j < n) : RV (w.setCell ⟨V, j, none⟩ (.int .u64 (vv j))) V n (j + 1) vv := by
  obtain ⟨cs, h1, h2, h3⟩ := h.ex
  refine ⟨_, heap_setCell_same w V j cs 50 _ h1, by simp [h2], fun i hi => ?_⟩
  by_cases hij : j = i
  · subst hij; rw [Array.getElem?_setIfInBounds_self_of_lt (by omega)]
  · rw [Array.getElem?_setIfInBounds_ne hij]; exact h3 i (by omega)
theorem RV.ov {w : World} {V n : Nat} {vv : Nat → Int} (h : RV w V n n vv) : OV w (some ⟨V, 0, none⟩) n vv := fun hn => by
  obtain ⟨cs, h1, h2, h3⟩ := h.ex
  refine ⟨_, rfl, fun i hi => ?_⟩
  have ha : (⟨V, 0, none⟩ : Addr).add i = ⟨V, i, none⟩ := by simp [Addr.add]; exact fun e => e.symm
  rw [ha]
  exact cell_of h1 (h3 i hi)
/-- What can be written at V, j. -/
theorem RV.place {w : World} {V n j : Nat} {vv : Nat → Int} (h : RV w V n j vv) (hj : j < n) : (∃ u, w.cell? ⟨V, j, none⟩ = some u) ∧ w.frozen? ⟨V, j, none⟩ = false := by
  obtain ⟨cs, h1, h2, h3⟩ := h.ex
  exact ⟨⟨cs[j]'(by omega), cell_of h1 (Array.getElem?_eq_getElem _)⟩, frozen_of h1⟩

/-- The held queries as they come in. -/
def HI (w : World) (p : Option Addr) (k : Nat) (ask key rf : Nat → Int) (lk : Nat → Bool) : Prop := 0 < k → ∃ b o, p = some ⟨b, o, none⟩ ∧ ∀ i, i < k → w.cell? ⟨b, o + i * 4, none⟩ = some (.int .u64 (ask i)) ∧ w.cell? ⟨b, o + i * 4 + 1, none⟩ = some (.int .u64 (key i)) ∧ w.cell? ⟨b, o + i * 4 + 2, none⟩ = some (.int .u64 (rf i)) ∧ w.cell? ⟨b, o + i * 4 + 3, none⟩ = some (.bool (lk i))
theorem HI.keep {w w' : World} {p : Option Addr} {k : Nat} {ask key rf : Nat → Int} {lk : Nat → Bool} (h : HI w p k ask key rf lk) (hb : Below w.heap.size w w') : HI w' p k ask key rf lk := fun hk => by
  obtain ⟨b, o, e, q⟩ := h hk
  refine ⟨b, o, e, fun i hi => ?_⟩
  obtain ⟨q0, q1, q2, q3⟩ := q i hi
  have kp : ∀ {j : Nat} {v : Value}, w.cell? ⟨b, j, none⟩ = some v → w'.cell? ⟨b, j, none⟩ = some v := fun {j v} hv => (hb.cell (p := ⟨b, j, none⟩) (lt_of_cell hv)).trans hv
  exact ⟨kp q0, kp q1, kp q2, kp q3⟩
/-- The queries' row in the filling. -/
structure QV (w : World) (Q k j : Nat) (ask key rf : Nat → Int) (lk : Nat → Bool) : Prop where
  ex : ∃ cs, w.heap[Q]? = some (.cells cs 107 (0, 0)) ∧ cs.size = k * 4 ∧ ∀ i, i < j → cs[i * 4]? = some (.int .u64 (ask i)) ∧ cs[i * 4 + 1]? = some (.int .u64 (key i)) ∧ cs[i * 4 + 2]? = some (.int .u64 (rf i)) ∧ cs[i * 4 + 3]? = some (.bool (lk i))
theorem QV.keep {w w' : World} {Q k j : Nat} {ask key rf : Nat → Int} {lk : Nat → Bool} (h : QV w Q k j ask key rf lk) (hb : Below w.heap.size w w') : QV w' Q k j ask key rf lk := by
  obtain ⟨cs, h1, h2⟩ := h.ex
  exact ⟨cs, (hb.block Q (Array.getElem?_eq_some_iff.1 h1).1).trans h1, h2⟩
theorem QV.push {w : World} {Q k j : Nat} {ask key rf : Nat → Int} {lk : Nat → Bool} (h : QV w Q k j ask key rf lk) (hj : j < k) :
    QV ((((w.setCell ⟨Q, j * 4, none⟩ (.int .u64 (ask j))).setCell ⟨Q, j * 4 + 1, none⟩ (.int .u64 (key j))).setCell ⟨Q, j * 4 + 2, none⟩ (.int .u64 (rf j))).setCell ⟨Q, j * 4 + 3, none⟩ (.bool (lk j))) Q k (j + 1) ask key rf lk := by
  obtain ⟨cs, h1, h2, h3⟩ := h.ex
  have e := (((BStep.refl h1).set (j * 4) (.int .u64 (ask j))).set (j * 4 + 1) (.int .u64 (key j))).set (j * 4 + 2) (.int .u64 (rf j)) |>.set (j * 4 + 3) (.bool (lk j))
  refine ⟨_, e.par, by simp [h2], fun i hi => ?_⟩
  by_cases hij : i = j
  · subst hij
    refine ⟨?_, ?_, ?_, ?_⟩
    · rw [Array.getElem?_setIfInBounds_ne (by omega), Array.getElem?_setIfInBounds_ne (by omega), Array.getElem?_setIfInBounds_ne (by omega), Array.getElem?_setIfInBounds_self_of_lt (by omega)]
    · rw [Array.getElem?_setIfInBounds_ne (by omega), Array.getElem?_setIfInBounds_ne (by omega), Array.getElem?_setIfInBounds_self_of_lt (by simp; omega)]
    · rw [Array.getElem?_setIfInBounds_ne (by omega), Array.getElem?_setIfInBounds_self_of_lt (by simp; omega)]
    · rw [Array.getElem?_setIfInBounds_self_of_lt (by simp; omega)]
  · have g : ∀ x, x < 4 → ((((cs.setIfInBounds (j * 4) (.int .u64 (ask j))).setIfInBounds (j * 4 + 1) (.int .u64 (key j))).setIfInBounds (j * 4 + 2) (.int .u64 (rf j))).setIfInBounds (j * 4 + 3) (.bool (lk j)))[i * 4 + x]? = cs[i * 4 + x]? := fun x hx => by
      rw [Array.getElem?_setIfInBounds_ne (by omega), Array.getElem?_setIfInBounds_ne (by omega), Array.getElem?_setIfInBounds_ne (by omega), Array.getElem?_setIfInBounds_ne (by omega)]
    obtain ⟨q0, q1, q2, q3⟩ := h3 i (by omega)
    exact ⟨(g 0 (by omega)).trans q0, (g 1 (by omega)).trans q1, (g 2 (by omega)).trans q2, (g 3 (by omega)).trans q3⟩
theorem QV.place {w : World} {Q k j : Nat} {ask key rf : Nat → Int} {lk : Nat → Bool} (h : QV w Q k j ask key rf lk) (hj : j < k) : (∃ u, w.cell? ⟨Q, j * 4, none⟩ = some u) ∧ (∃ u, w.cell? ⟨Q, j * 4 + 1, none⟩ = some u) ∧ (∃ u, w.cell? ⟨Q, j * 4 + 2, none⟩ = some u) ∧ (∃ u, w.cell? ⟨Q, j * 4 + 3, none⟩ = some u) ∧ ∀ x, w.frozen? ⟨Q, x, none⟩ = false := by
  obtain ⟨cs, h1, h2, h3⟩ := h.ex
  exact ⟨⟨cs[j * 4]'(by omega), cell_of h1 (Array.getElem?_eq_getElem _)⟩, ⟨cs[j * 4 + 1]'(by omega), cell_of h1 (Array.getElem?_eq_getElem _)⟩, ⟨cs[j * 4 + 2]'(by omega), cell_of h1 (Array.getElem?_eq_getElem _)⟩, ⟨cs[j * 4 + 3]'(by omega), cell_of h1 (Array.getElem?_eq_getElem _)⟩, fun x => frozen_of h1⟩
theorem QV.hq {w : World} {Q k : Nat} {ask key rf : Nat → Int} {lk : Nat → Bool} (h : QV w Q k k ask key rf lk) : ∃ hc, HQ w Q k hc ask key rf lk := by
  obtain ⟨cs, h1, h2, h3⟩ := h.ex
  exact ⟨cs, h1, h2, h3⟩
end Go.Proofs.YbulkdxyaFmt
