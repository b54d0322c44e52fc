import Derived.Test.YbulkdxyaEnd
import Derived.Deep.OwnRows
import Derived.OpenShut
import Derived.Deep.RegionLawGrows
import Derived.Deep.DeepCutAuto
import Derived.Deep.CutBlock
import Derived.BigQuiet
import Derived.Deep.QuietTactic
namespace Go.Proofs.Ybulkdxya
open Go.Conc Go.RowKit

theorem info25 : (Yba.prog.info? 25).map (fun i => (i.zero, i.size, i.bytes)) = some (some (.chan none), 1, 8) := by kernel_rfl
theorem bytes29 : ∃ i, Yba.prog.info? 29 = some i ∧ i.bytes = 24 := by
  have h : (Yba.prog.info? 29).map (·.bytes) = some 24 := by kernel_rfl
  obtain ⟨i, hi, hb⟩ := Option.map_eq_some_iff.1 h
  exact ⟨i, hi, hb⟩
theorem bytes36 : ∃ i, Yba.prog.info? 36 = some i ∧ i.bytes = 0 := by
  have h : (Yba.prog.info? 36).map (·.bytes) = some 0 := by kernel_rfl
  obtain ⟨i, hi, hb⟩ := Option.map_eq_some_iff.1 h
  exact ⟨i, hi, hb⟩
theorem mkR (w : World) : (Instr.makeChan 25 (.int .i64 0)).run Yba.prog w = .ok (.chan (some w.heap.size)) (w.alloc (.chan 0 #[] false 0 0 false)) := by
  obtain ⟨i, hi, hb⟩ := bytes29
  simpa using run_makeChan (P := Yba.prog) (w := w) Yba.underlying25 hi .i64 0 (by omega) (by rw [hb]; omega)
theorem mkE (w : World) : (Instr.makeChan 26 (.int .i64 0)).run Yba.prog w = .ok (.chan (some w.heap.size)) (w.alloc (.chan 0 #[] false 0 0 false)) := by
  obtain ⟨i, hi, hb⟩ := bytes36
  simpa using run_makeChan (P := Yba.prog) (w := w) Yba.underlying26 hi .i64 0 (by omega) (by rw [hb]; omega)

/-- The world at the head of the first loop's round k: the row of the channels at block B, the channels made so far behind it. -/
structure Rows1 (B n k : Nat) (w wr : World) : Prop where
  size : wr.heap.size = B + 1 + k
  below : Below B w wr
  row : wr.rowIs B 25 n (fun j => if j < k then .chan (some (B + 1 + j)) else .chan none)
  chans : ∀ j, j < k → wr.heap[B + 1 + j]? = some (.chan 0 #[] false 0 0 false)

theorem Rows1.start (n : Nat) (w : World) : Rows1 w.heap.size n 0 w (w.alloc (.cells (madeCells #[.chan none] n) 25)) where
  size := by simp
  below := (Below.refl _ _).alloc (Nat.le_refl _) _
  row := (World.rowIs_made w (.chan none) n 25).congr (fun i _ => by simp)
  chans := fun j hj => absurd hj (Nat.not_lt_zero _)

theorem Rows1.next {B n k : Nat} {w wr : World} (h : Rows1 B n k w wr) :
    Rows1 B n (k + 1) w ((wr.setCell ⟨B, k, none⟩ (.chan (some wr.heap.size))).alloc (.chan 0 #[] false 0 0 false)) where
  size := by simp [h.size]; omega
  below := (h.below.setCell (Nat.le_refl _) _).alloc (by have := h.size; simp; omega) _
  row := ((h.row.set k _).alloc _).congr (fun j _ => by
    rw [h.size]
    by_cases e : j = k
    · subst e; simp
    · have : (j < k + 1) ↔ (j < k) := by omega
      simp [e, this])
  chans := fun j hj => by
    by_cases e : j = k
    · subst e
      have := heap_alloc_new (wr.setCell ⟨B, j, none⟩ (.chan (some wr.heap.size))) (.chan 0 #[] false 0 0 false)
      rw [World.size_setCell] at this
      rw [h.size] at this ⊢
      exact this
    · rw [Below.heap_alloc _ _ _ (by have := h.size; simp; omega), Below.heap_setCell _ _ _ _ (by show B + 1 + j ≠ B; omega)]
      exact h.chans j (by omega)

/-- append to the nil slice, as one step of a region that draws. -/
theorem step_append_nil {P : Program} {ops : Array Oper} {o : Oper} {a : Act} {w : World} {K : Act → World → Prop} {Q : Exit → Act → World → Prop} {E : Prop}
    (hg : o.guard = none) (s x : Operand) (t : TypeId) (hop : o.op = Op.call { callee := Callee.builtin Builtin.append, args := #[s, x], argTypes := #[t, t] })
    (e : TypeId) (i : TypeInfo) (z : Value) (size bytes : Nat) (h1 : P.underlying t = some (.slice e)) (h2 : P.info? e = some i) (h3 : i.zero = some z) (h4 : i.size = size) (h5 : i.bytes = bytes) (h6 : z.cells.size = size) (h7 : 0 < size)
    (hs : a.eval s = .slice none 0 0)
    (ad : Addr) (m c : Nat) (news : List Value) (hx : a.eval x = .slice (some ad) m c) (hn : news.length = m * size) (hc : ∀ j u, news[j]? = some u → w.cell? (ad.add j) = some u) (h1c : ∀ u ∈ news, u.oneCell' = true)
    (b1 : 0 + m ≤ maxLen) (b2 : (0 + m) * bytes ≤ 140737488355328)
    (hK : ∀ v' w', w'.ownsRow w.heap.size e size v' m news → w.grownBy w' none → K (a.put o.dst v') w') :
    if Region.wanted o (yielded ops a.tmps) = true then Oper.wp P o a w K Q else E := by
  have hw : Region.wanted o (yielded ops a.tmps) = true := by simp [Region.wanted, hg]
  rw [if_pos hw]
  obtain ⟨v', w', hrun, r1, r2, _⟩ := run_append_own (P := P) w w.heap.size t o.type e i z size bytes h1 h2 h3 h4 h5 h6 h7 (.slice none 0 0) 0 [] (World.ownsRow_nil w _ e size) ad m c news hn hc h1c b1 b2 (Nat.le_refl _)
  unfold Oper.wp
  simp [execOp, hop, resolve, invoke, builtin, hs, hx, hrun, Result.andThen]
  rw [Nat.zero_add] at r1
  exact hK v' w' r1 r2

theorem alloc_setChan (w : World) (cap : Nat) (buf : Array Value) (cl cl' : Bool) (s r : Nat) (tm : Bool) : (w.alloc (.chan cap buf cl s r tm)).setChan w.heap.size cap buf cl' s r tm = w.alloc (.chan cap buf cl' s r tm) := by
  show ({ w.alloc (.chan cap buf cl s r tm) with heap := (w.heap.push (.chan cap buf cl s r tm)).setIfInBounds w.heap.size (.chan cap buf cl' s r tm) } : World) = w.alloc (.chan cap buf cl' s r tm)
  have : (w.heap.push (.chan cap buf cl s r tm)).setIfInBounds w.heap.size (.chan cap buf cl' s r tm) = w.heap.push (.chan cap buf cl' s r tm) := by
    apply Array.ext_getElem?
    intro i
    rw [Array.getElem?_setIfInBounds, Array.getElem?_push, Array.getElem?_push]
    by_cases h : i = w.heap.size
    · subst h; simp
    · rw [if_neg (fun e => h e.symm), if_neg h, if_neg h]
  rw [this]
  rfl

theorem qcells {wr w' : World} {o : Obj} {x y z : Value} (hg : ((wr.alloc o).alloc (.cells #[x, y, z] 29)).drew.grownBy w' .none) :
    w'.cell? ⟨wr.heap.size + 1, 0, .none⟩ = some x ∧ w'.cell? ⟨wr.heap.size + 1, 1, .none⟩ = some y ∧ w'.cell? ⟨wr.heap.size + 1, 2, .none⟩ = some z := by
  have hb : w'.heap[wr.heap.size + 1]? = some (.cells #[x, y, z] 29) := by
    rw [hg.block (wr.heap.size + 1) (by simp) (by simp)]
    have := heap_alloc_new (wr.alloc o) (.cells #[x, y, z] 29)
    rw [World.size_alloc] at this
    exact this
  refine ⟨?_, ?_, ?_⟩ <;> simp [World.cell?, hb]

/-- The daemon's cells. -/
def dcells (x y z v e c : Value) : Array Value := #[.nilIface, .pointer .none, .pointer .none, .bool false, .bool false, .int .i64 0, .chan .none, .nilIface, .nilFunc, .chan .none, .nilIface, .int .u32 0, .int .i32 0, .int .u32 0, .int .u64 0, .int .u32 0, .int .u64 0, .int .u32 0, .int .u64 0, .int .u32 0, .bool false, .bool false, .slice .none 0 0, .int .i64 0, .bool false, .int .u64 0, .int .i64 0, .pointer .none, .map .none, .map .none, .map .none, .slice .none 0 0, .bool false, .map .none, .int .i64 0, .int .u64 0, .int .u64 0, .int .u64 0, .int .u64 0, .int .u64 0, .int .u64 0, .int .u64 0, .int .u64 0, .slice .none 0 0, .slice .none 0 0, .int .u64 0, .int .i64 0, .int .i32 0, .int .u32 0, x, y, z, v, e, c, .int .u64 0, .int .u32 0]
/-- A struct literal, as one step of a region that draws. -/
theorem step_build {P : Program} {ops : Array Oper} {o : Oper} {a : Act} {w : World} {K : Act → World → Prop} {Q : Exit → Act → World → Prop} {E : Prop}
    (hg : o.guard = none) (t : TypeId) (parts : Array (Nat × Operand)) (hop : o.op = Op.build t parts) (cells : Array Value)
    (h : P.built t (parts.map fun (i, x) => (i, a.eval x)).toList = some cells) (hK : K (a.put o.dst (.agg cells)) w) :
    if Region.wanted o (yielded ops a.tmps) = true then Oper.wp P o a w K Q else E := by
  have hw : Region.wanted o (yielded ops a.tmps) = true := by simp [Region.wanted, hg]
  rw [if_pos hw]
  unfold Oper.wp execOp
  simp only [hop, Sem.run_bind, run_build w t _ cells h, Result.andThen_ok]
  exact hK
theorem own_form {w : World} {base size n : Nat} {e : TypeId} {v : Value} {xs : List Value} (h : w.ownsRow base e size v n xs) : ∃ ao cap, v = .slice ao n cap := by
  rcases h.2 with ⟨rfl, rfl⟩ | ⟨g, cap, _, rfl, _⟩
  · exact ⟨_, _, rfl⟩
  · exact ⟨_, _, rfl⟩

/-- What the slice of the watches is good for. -/
def Watch (B n q b : Nat) (v : Value) (wc : World) : Prop :=
  (v = .slice none 0 0 ∧ n = 0) ∨ ∃ g cap, v = .slice (some ⟨g, 0, none⟩) n cap ∧ q < g ∧ g < b ∧ ∀ j, j < n → wc.cell? ⟨g, j, none⟩ = some (.chan (some (B + 1 + j)))

/-- Behind the daemon's making. B: the first new block, c: the end's channel, q: the range's box, b: the daemon. -/
structure Mid (B n c q b : Nat) (v : Value) (ended : Bool) (a0 a1 : Int) (a2 : Bool) (w wc : World) : Prop where
  below : Below B w wc
  row : wc.rowIs B 25 n (fun j => .chan (some (B + 1 + j)))
  chans : ∀ j, j < n → wc.heap[B + 1 + j]? = some (.chan 0 #[] false 0 0 false)
  cend : wc.heap[c]? = some (.chan 0 #[] ended 0 0 false)
  q0 : wc.cell? ⟨q, 0, none⟩ = some (.int .u64 a0)
  q1 : wc.cell? ⟨q, 1, none⟩ = some (.int .u64 a1)
  q2 : wc.cell? ⟨q, 2, none⟩ = some (.bool a2)
  d47 : wc.cell? ⟨b, 47, none⟩ = some (.int .i32 0)
  d49 : wc.cell? ⟨b, 49, none⟩ = some (.int .u64 a0)
  d50 : wc.cell? ⟨b, 50, none⟩ = some (.int .u64 a1)
  d51 : wc.cell? ⟨b, 51, none⟩ = some (.bool a2)
  d52 : wc.cell? ⟨b, 52, none⟩ = some v
  d53 : wc.cell? ⟨b, 53, none⟩ = some (.bool ended)
  d54 : wc.cell? ⟨b, 54, none⟩ = some (.chan (some c))
  d55 : wc.cell? ⟨b, 55, none⟩ = some (.int .u64 0)
  fz : ∀ k, wc.frozen? ⟨b, k, none⟩ = false
  watch : Watch B n q b v wc
  hc : c = B + 1 + n
  hq : q = c + 1
  hb : q < b

theorem chanList (B n : Nat) (w : World) (h : w.rowIs B 25 n (fun j => .chan (some (B + 1 + j)))) :
    ((List.range n).map fun j => Value.chan (some (B + 1 + j))).length = n * 1 ∧ (∀ j u, ((List.range n).map fun j => Value.chan (some (B + 1 + j)))[j]? = some u → w.cell? ((⟨B, 0, none⟩ : Addr).add j) = some u) ∧ (∀ u ∈ (List.range n).map fun j => Value.chan (some (B + 1 + j)), u.oneCell' = true) := by
  refine ⟨by simp, fun j u hj => ?_, fun u hu => ?_⟩
  · simp only [List.getElem?_map, Option.map_eq_some_iff, List.getElem?_eq_some_iff, List.length_range, List.getElem_range] at hj
    obtain ⟨k, ⟨hk, rfl⟩, rfl⟩ := hj
    have := h.cell hk
    by_cases e : j = 0
    · subst e; simpa [Addr.add] using this
    · simpa [Addr.add, e] using this
  · simp only [List.mem_map] at hu
    obtain ⟨k, _, rfl⟩ := hu
    rfl

theorem cell_of {w : World} {b i : Nat} {c : Array Value} {t : TypeId} {v : Value} (hb : w.heap[b]? = some (.cells c t (0, 0))) (hc : c[i]? = some v) : w.cell? ⟨b, i, .none⟩ = some v := by
  simp [World.cell?, hb, hc]

theorem frozen_of {w : World} {b : Nat} {c : Array Value} {t : TypeId} (hb : w.heap[b]? = some (.cells c t (0, 0))) (i : Nat) : w.frozen? ⟨b, i, .none⟩ = false := by
  simp [World.frozen?, hb]

theorem equalIn_chan (t e : TypeId) (d : ChanDir) (c : Nat) (h : Yba.prog.underlying t = some (.chan d e)) (n : Nat) (w : World) : (Op.equalIn (n + 1) t (.chan (some c)) (.chan (some c))).run Yba.prog w = .ok true w := by
  simp [Op.equalIn, run_underlying h]
theorem neq_chan (t e : TypeId) (d : ChanDir) (c : Nat) (h : Yba.prog.underlying t = some (.chan d e)) (w : World) : (binOp .neq t (.chan (some c)) (.chan (some c))).run Yba.prog w = .ok (.bool false) w := by
  simp only [binOp]
  simp [Op.equal, Op.maxDepth, equalIn_chan t e d c h 9999 w]

/-- Behind endWatches. -/
structure Aft (B n c q b : Nat) (x0 x1 x2 xv : Value) (a0 a1 : Int) (a2 : Bool) (w wc : World) : Prop where
  below : Below B w wc
  row : wc.rowIs B 25 n (fun j => .chan (some (B + 1 + j)))
  chans : ∀ j, j < n → wc.heap[B + 1 + j]? = some (.chan 0 #[] false 0 0 false)
  cend : wc.heap[c]? = some (.chan 0 #[] true 0 0 false)
  q0 : wc.cell? ⟨q, 0, none⟩ = some (.int .u64 a0)
  q1 : wc.cell? ⟨q, 1, none⟩ = some (.int .u64 a1)
  q2 : wc.cell? ⟨q, 2, none⟩ = some (.bool a2)
  d47 : wc.cell? ⟨b, 47, none⟩ = some (.int .i32 0)
  d49 : wc.cell? ⟨b, 49, none⟩ = some x0
  d50 : wc.cell? ⟨b, 50, none⟩ = some x1
  d51 : wc.cell? ⟨b, 51, none⟩ = some x2
  d52 : wc.cell? ⟨b, 52, none⟩ = some xv
  d53 : wc.cell? ⟨b, 53, none⟩ = some (.bool true)
  d54 : wc.cell? ⟨b, 54, none⟩ = some (.chan (some c))
  fz : ∀ k, wc.frozen? ⟨b, k, none⟩ = false
  hc : c = B + 1 + n
  hq : q = c + 1
  hb : q < b

theorem Aft.lock {B n c q b : Nat} {x0 x1 x2 xv : Value} {a0 a1 : Int} {a2 : Bool} {w wc : World} (h : Aft B n c q b x0 x1 x2 xv a0 a1 a2 w wc) :
    Aft B n c q b x0 x1 x2 xv a0 a1 a2 w ((wc.setCell ⟨b, 47, .none⟩ (.int .i32 1)).setCell ⟨b, 47, .none⟩ (.int .i32 0)) := by
  have hE := ended_ended b c wc h.d47
  have hcl := ended_ended_cell b wc
  have e1 := h.hc
  have e2 := h.hq
  have e3 := h.hb
  have ho : ∀ k, k ≠ b → ((wc.setCell ⟨b, 47, .none⟩ (.int .i32 1)).setCell ⟨b, 47, .none⟩ (.int .i32 0)).heap[k]? = wc.heap[k]? := fun k hk => by
    rw [Below.heap_setCell _ _ _ _ hk, Below.heap_setCell _ _ _ _ hk]
  exact ⟨h.below.trans (hE.below B (by omega) (by omega)), h.row.of_block (ho _ (by omega)), fun j hj => (ho _ (by omega)).trans (h.chans j hj), (ho _ (by omega)).trans h.cend,
    (World.cell?_of_block (ho _ (by show q ≠ b; omega))).trans h.q0, (World.cell?_of_block (ho _ (by show q ≠ b; omega))).trans h.q1, (World.cell?_of_block (ho _ (by show q ≠ b; omega))).trans h.q2,
    hE.c47, (hcl 49 (by omega)).trans h.d49, (hcl 50 (by omega)).trans h.d50, (hcl 51 (by omega)).trans h.d51, (hcl 52 (by omega)).trans h.d52, (hcl 53 (by omega)).trans h.d53, (hcl 54 (by omega)).trans h.d54,
    fun k => (hE.frozen k).trans (h.fz k), e1, e2, e3⟩

theorem Aft.drewN {B n c q b : Nat} {x0 x1 x2 xv : Value} {a0 a1 : Int} {a2 : Bool} {w wc : World} (h : Aft B n c q b x0 x1 x2 xv a0 a1 a2 w wc) (m : Nat) :
    Aft B n c q b x0 x1 x2 xv a0 a1 a2 w (wc.drewN m) :=
  ⟨below_drewN h.below m, h.row, h.chans, h.cend, h.q0, h.q1, h.q2, h.d47, h.d49, h.d50, h.d51, h.d52, h.d53, h.d54, h.fz, h.hc, h.hq, h.hb⟩

/-- The watches, cell by cell. -/
def Cells (B n : Nat) (ao : Option Addr) (wc : World) : Prop := ∀ j, j < n → ∃ g, ao = some ⟨g, 0, .none⟩ ∧ wc.cell? ⟨g, j, .none⟩ = some (.chan (some (B + 1 + j)))
theorem Watch.cells {B n q b : Nat} {v : Value} {wc : World} (h : Watch B n q b v wc) : ∃ ao cap, v = .slice ao n cap ∧ Cells B n ao wc := by
  rcases h with ⟨rfl, rfl⟩ | ⟨g, cap, rfl, _, _, h⟩
  · exact ⟨_, _, rfl, fun j hj => absurd hj (Nat.not_lt_zero _)⟩
  · exact ⟨_, _, rfl, fun j hj => ⟨g, rfl, h j hj⟩⟩
theorem Cells.drewN {B n : Nat} {ao : Option Addr} {wc : World} (h : Cells B n ao wc) (m : Nat) : Cells B n ao (wc.drewN m) := h

theorem Watch.keep {B n q b : Nat} {v : Value} {w w' : World} (h : Watch B n q b v w) (ho : ∀ k, q < k → k < b → w'.heap[k]? = w.heap[k]?) : Watch B n q b v w' := by
  rcases h with h | ⟨g, cap, e, h1, h2, h3⟩
  · exact .inl h
  · exact .inr ⟨g, cap, e, h1, h2, fun j hj => (World.cell?_of_block (ho g h1 h2)).trans (h3 j hj)⟩

theorem aft_ended {B n c q b : Nat} {v : Value} {a0 a1 : Int} {a2 : Bool} {w wc : World} (h : Mid B n c q b v true a0 a1 a2 w wc) :
    Aft B n c q b (.int .u64 a0) (.int .u64 a1) (.bool a2) v a0 a1 a2 w ((wc.setCell ⟨b, 47, .none⟩ (.int .i32 1)).setCell ⟨b, 47, .none⟩ (.int .i32 0)) ∧ Watch B n q b v ((wc.setCell ⟨b, 47, .none⟩ (.int .i32 1)).setCell ⟨b, 47, .none⟩ (.int .i32 0)) := by
  have ho : ∀ k, k ≠ b → ((wc.setCell ⟨b, 47, .none⟩ (.int .i32 1)).setCell ⟨b, 47, .none⟩ (.int .i32 0)).heap[k]? = wc.heap[k]? := fun k hk => by
    rw [Below.heap_setCell _ _ _ _ hk, Below.heap_setCell _ _ _ _ hk]
  refine ⟨Aft.lock ⟨h.below, h.row, h.chans, h.cend, h.q0, h.q1, h.q2, h.d47, h.d49, h.d50, h.d51, h.d52, h.d53, h.d54, h.fz, h.hc, h.hq, h.hb⟩, h.watch.keep fun k h1 h2 => ho k (by omega)⟩

theorem aft_open {B n c q b : Nat} {v : Value} {a0 a1 : Int} {a2 : Bool} {w wc w1 : World} (h : Mid B n c q b v false a0 a1 a2 w wc)
    (hw : w1 = (((((((wc.setCell ⟨b, 47, .none⟩ (.int .i32 1)).setCell ⟨b, 53, .none⟩ (.bool true)).setCell ⟨b, 49, .none⟩ (.int .u64 0)).setCell ⟨b, 50, .none⟩ (.int .u64 0)).setCell ⟨b, 51, .none⟩ (.bool false)).setCell ⟨b, 52, .none⟩ (.slice .none 0 0)).setChan c 0 #[] true 0 0 false).setCell ⟨b, 47, .none⟩ (.int .i32 0)) :
    Aft B n c q b (.int .u64 0) (.int .u64 0) (.bool false) (.slice .none 0 0) a0 a1 a2 w w1 := by
  have e1 := h.hc
  have e2 := h.hq
  have e3 := h.hb
  obtain ⟨hE, g49, g50, g51, g52, g53, g54, gc⟩ := open_ended b c (by omega) _ _ _ _ 0 0 0 false wc w1 h.d47 h.d49 h.d50 h.d51 h.d52 h.d53 h.d54 h.cend hw
  exact ⟨h.below.trans (hE.below B (by omega) (by omega)), h.row.of_block (hE.other _ (by omega) (by omega)), fun j hj => (hE.other _ (by omega) (by omega)).trans (h.chans j hj), gc,
    (World.cell?_of_block (hE.other _ (by show q ≠ b; omega) (by show q ≠ c; omega))).trans h.q0, (World.cell?_of_block (hE.other _ (by show q ≠ b; omega) (by show q ≠ c; omega))).trans h.q1, (World.cell?_of_block (hE.other _ (by show q ≠ b; omega) (by show q ≠ c; omega))).trans h.q2,
    hE.c47, g49, g50, g51, g52, g53, g54, fun k => (hE.frozen k).trans (h.fz k), e1, e2, e3⟩

theorem mid_of {k : Nat} {w wr w' : World} {a0 a1 : Int} {a2 a3 : Bool} {ao : Option Addr} {cap : Nat} (hR : Rows1 w.heap.size k k w wr)
    (hown : w'.ownsRow ((wr.alloc (.chan 0 #[] a3 0 0 false)).alloc (.cells #[.int .u64 a0, .int .u64 a1, .bool a2] 29)).drew.heap.size 25 1 (.slice ao k cap) k ((List.range k).map fun j => Value.chan (some (w.heap.size + 1 + j))))
    (hg : ((wr.alloc (.chan 0 #[] a3 0 0 false)).alloc (.cells #[.int .u64 a0, .int .u64 a1, .bool a2] 29)).drew.grownBy w' .none) :
    Mid w.heap.size k wr.heap.size (wr.heap.size + 1) w'.heap.size (.slice ao k cap) a3 a0 a1 a2 w (w'.alloc (.cells (dcells (.int .u64 a0) (.int .u64 a1) (.bool a2) (.slice ao k cap) (.bool a3) (.chan (some wr.heap.size))) 85)) := by
  have hs := hR.size
  have hsz : wr.heap.size + 2 ≤ w'.heap.size := by have := hg.size; simpa using this
  have hold : ∀ i, i < wr.heap.size → (w'.alloc (.cells (dcells (.int .u64 a0) (.int .u64 a1) (.bool a2) (.slice ao k cap) (.bool a3) (.chan (some wr.heap.size))) 85)).heap[i]? = wr.heap[i]? := fun i hi => by
    rw [Below.heap_alloc _ _ _ (by omega), hg.block i (by simp; omega) (by simp)]
    show ((wr.alloc (.chan 0 #[] a3 0 0 false)).alloc (.cells #[.int .u64 a0, .int .u64 a1, .bool a2] 29)).heap[i]? = _
    rw [Below.heap_alloc _ _ _ (by simp; omega), Below.heap_alloc _ _ _ hi]
  have hc : (w'.alloc (.cells (dcells (.int .u64 a0) (.int .u64 a1) (.bool a2) (.slice ao k cap) (.bool a3) (.chan (some wr.heap.size))) 85)).heap[wr.heap.size]? = some (.chan 0 #[] a3 0 0 false) := by
    rw [Below.heap_alloc _ _ _ (by omega), hg.block _ (by simp; omega) (by simp)]
    show ((wr.alloc (.chan 0 #[] a3 0 0 false)).alloc (.cells #[.int .u64 a0, .int .u64 a1, .bool a2] 29)).heap[wr.heap.size]? = _
    rw [Below.heap_alloc _ _ _ (by simp)]
    exact heap_alloc_new _ _
  have hq := qcells hg
  have hb := heap_alloc_new w' (.cells (dcells (.int .u64 a0) (.int .u64 a1) (.bool a2) (.slice ao k cap) (.bool a3) (.chan (some wr.heap.size))) 85)
  refine ⟨?_, ?_, ?_, hc, ?_, ?_, ?_, ?_, ?_, ?_, ?_, ?_, ?_, ?_, ?_, ?_, ?_, hs, rfl, by omega⟩
  · have h1 : Below w.heap.size w ((wr.alloc (.chan 0 #[] a3 0 0 false)).alloc (.cells #[.int .u64 a0, .int .u64 a1, .bool a2] 29)).drew := ((hR.below.alloc (by omega) _).alloc (by simp; omega) _).drew
    exact (h1.grown hg (by simp; omega) (by simp)).alloc (by omega) _
  · exact (hR.row.congr (g := fun j => .chan (some (w.heap.size + 1 + j))) (fun j hj => by simp [hj])).of_block (hold _ (by omega))
  · exact fun j hj => (hold _ (by omega)).trans (hR.chans j hj)
  · rw [World.cell?_of_block (w := w') (Below.heap_alloc _ _ _ (by show wr.heap.size + 1 < _; omega))]; exact hq.1
  · rw [World.cell?_of_block (w := w') (Below.heap_alloc _ _ _ (by show wr.heap.size + 1 < _; omega))]; exact hq.2.1
  · rw [World.cell?_of_block (w := w') (Below.heap_alloc _ _ _ (by show wr.heap.size + 1 < _; omega))]; exact hq.2.2
  · exact cell_of hb rfl
  · exact cell_of hb rfl
  · exact cell_of hb rfl
  · exact cell_of hb rfl
  · exact cell_of hb rfl
  · exact cell_of hb rfl
  · exact cell_of hb rfl
  · exact cell_of hb rfl
  · exact fun i => frozen_of hb i
  · rcases hown.2 with ⟨e, h0⟩ | ⟨g, cap', cur, e, hbg, hgc, hnc, _, hsz', htk⟩
    · exact .inl ⟨e, h0⟩
    · refine .inr ⟨g, cap', e, ?_, ?_, ?_⟩
      · have : wr.heap.size + 2 ≤ g := by simpa using hbg
        omega
      · rcases Nat.lt_or_ge g w'.heap.size with h | h
        · exact h
        · rw [Array.getElem?_eq_none h] at hgc; cases hgc
      · intro j hj
        have hlt : g < w'.heap.size := by
          rcases Nat.lt_or_ge g w'.heap.size with h | h
          · exact h
          · rw [Array.getElem?_eq_none h] at hgc; cases hgc
        rw [World.cell?_of_block (w := w') (Below.heap_alloc _ _ _ hlt)]
        have h2 : cur[j]? = some (.chan (some (w.heap.size + 1 + j))) := by
          have h3 := congrArg (fun l => l[j]?) htk
          simp only [Nat.mul_one, List.getElem?_take, hj, if_true, Array.getElem?_toList, List.getElem?_map, List.getElem?_range hj, Option.map_some] at h3
          exact h3
        simp [World.cell?, hgc, h2]

set_option maxRecDepth 100000 in
set_option maxHeartbeats 800000 in
theorem walk (a0 : Int) (a1 : Int) (a2 a3 : Bool) (a4 : Int) (w4 : (Lit.int .u16 a4).wf = true) (w : World) :
    Calls Yba.prog 3 #[.int .u64 a0, .int .u64 a1, .bool a2, .bool a3, .int .u16 a4] w fun e w' => e = .returned (.bool true) ∧ Below w.heap.size w w' := by
  have h4 := bounds_u16 w4
  clear w4
  obtain ⟨n, hn⟩ : ∃ n : Nat, a4 % 300 = (n : Int) := ⟨(a4 % 300).toNat, by omega⟩
  have hn3 : n < 300 := by omega
  have hmk := run_make_row' (P := Yba.prog) 24 25 (.chan none) 8 Yba.underlying24 info25 rfl .i64 .i64 n (by omega) (by omega)
  have hmR := mkR
  have hmE := mkE
  obtain ⟨i0, hi, hz0, hz1, hz2⟩ := info_parts info25
  go_enter Yba.func3, Yba.ntmps3
  go_wp2
  simp only [hn]
  have HN : Hid _ := hn
  clear hn
  go_loopw [13] (fun i wr => ∃ k : Nat, k ≤ n ∧ i = .int .i64 k ∧ Rows1 w.heap.size n k w wr) (fun i _ => n - (intOf i).toNat)
  case atStart => exact ⟨0, Nat.zero_le _, rfl, Rows1.start n w⟩
  case round =>
    obtain ⟨k, hk, rfl, hR⟩ := hrel
    by_cases hlt : k < n
    · have hc : wr.cell? ⟨w.heap.size, k, none⟩ = some (.chan none) := by simpa using hR.row.cell hlt
      have hf := hR.row.frozen k
      have hz := hR.row.lt
      go_wp2
      go_roundw
      case rel => exact ⟨k + 1, by omega, by go_num, hR.next⟩
      case measure => simp [intOf]; omega
    · obtain rfl : k = n := by omega
      have hcl : ∀ ats ty, (Builtin.close_ ats ty #[.chan (some wr.heap.size)]).run Yba.prog (wr.alloc (.chan 0 #[] false 0 0 false)) = .ok (.tuple #[]) (wr.alloc (.chan 0 #[] true 0 0 false)) := fun ats ty => (run_close _ 0 0 0 false _ ats ty (heap_alloc_new _ _)).trans (by rw [alloc_setChan])
      go_upto_if 34 with fail
      go_cut [] (fun wx => wx = wr.alloc (.chan 0 #[] a3 0 0 false))
      case first =>
        cases a3
        all_goals
          go_wp2
          go_meet
          case rel => rfl
      case rest =>
        subst hcut
        clear hcl
        have hz := hR.row.lt
        go_upto_region 11 with fail
        go_cut [16] (fun d wx => ∃ b v, d = .pointer (some ⟨b, 0, none⟩) ∧ Mid w.heap.size k wr.heap.size (wr.heap.size + 1) b v a3 a0 a1 a2 w wx)
        case first =>
          have hrow : ((wr.alloc (.chan 0 #[] a3 0 0 false)).alloc (.cells #[.int .u64 a0, .int .u64 a1, .bool a2] 29)).drew.rowIs w.heap.size 25 k (fun j => .chan (some (w.heap.size + 1 + j))) :=
            (((hR.row.congr (g := fun j => .chan (some (w.heap.size + 1 + j))) (fun j hj => by simp [hj])).alloc _).alloc _).drew
          have CL : Hid _ := chanList _ _ _ hrow
          have HR : Hid _ := hrow
          clear hrow hmk hmR hmE
          refine wp_region_any (by kernel_rfl) ?_
          change wpAny _ _ _ _ _ _ _ (World.drew _)
          refine wpAny_take (i := 1) (v := ?_) rfl (by kernel_rfl) (by kernel_rfl) (by kernel_rfl) (fun _ _ _ h => h) (Or.inl ⟨by rfl, ?_⟩) ?_
          rotate_left
          · intro w; go_simp; with_reducible rfl
          refine wpAny_take (i := 3) (v := ?_) rfl (by kernel_rfl) (by kernel_rfl) (by kernel_rfl) (fun _ _ _ h => h) (Or.inl ⟨by rfl, ?_⟩) ?_
          rotate_left
          · intro w; go_simp; with_reducible rfl
          refine wpAny_take (i := 4) (v := ?_) rfl (by kernel_rfl) (by kernel_rfl) (by kernel_rfl) (fun _ _ _ h => h) (Or.inl ⟨by rfl, ?_⟩) ?_
          rotate_left
          · intro w; go_simp; with_reducible rfl
          refine wpAny_ready (rs := [0, 2]) (by kernel_rfl) (by simp) ?_
          refine AllReady.cons rfl (fun K hK => ?_) (AllReady.cons rfl (fun K hK => ?_) AllReady.nil)
          · go_simp
            refine hK _ _ ?_; clear hK K
            refine wpAny_ready (rs := [2]) (by kernel_rfl) (by simp) ?_
            refine AllReady.cons rfl (fun K hK => ?_) AllReady.nil
            refine step_append_nil rfl (.const (.slice .none 0 0)) (.tmp 41) 24 rfl 25 i0 (.chan .none) 1 8 Yba.underlying24 hi hz0 hz1 hz2 rfl (by decide) rfl ⟨w.heap.size, 0, .none⟩ k k _ rfl CL.out.1 CL.out.2.1 CL.out.2.2 (by unfold maxLen; omega) (by omega) ?_
            intro v' w' hown hgrow
            obtain ⟨ao, cap, rfl⟩ := own_form hown
            refine hK _ _ ?_; clear hK K
            refine wpAny_ready (rs := [5]) (by kernel_rfl) (by simp) ?_
            refine AllReady.cons rfl (fun K hK => ?_) AllReady.nil
            refine step_build rfl 85 _ rfl (dcells (.int .u64 a0) (.int .u64 a1) (.bool a2) (.slice ao k cap) (.bool a3) (.chan (some wr.heap.size))) (by kernel_rfl) ?_
            refine hK _ _ ?_; clear hK K
            refine wpAny_ready (rs := [6]) (by kernel_rfl) (by simp) ?_
            refine AllReady.cons rfl (fun K hK => ?_) AllReady.nil
            go_simp
            refine hK _ _ ?_; clear hK K
            refine wpAny_ready (rs := [7]) (by kernel_rfl) (by simp) ?_
            refine AllReady.cons rfl (fun K hK => ?_) AllReady.nil
            go_simp
            refine hK _ _ ?_; clear hK K
            refine wpAny_done (by kernel_rfl) ?_ _
            go_wp2
            go_meet
            case rel => exact ⟨_, _, rfl, mid_of hR hown hgrow⟩
          · refine step_append_nil rfl (.const (.slice .none 0 0)) (.tmp 41) 24 rfl 25 i0 (.chan .none) 1 8 Yba.underlying24 hi hz0 hz1 hz2 rfl (by decide) rfl ⟨w.heap.size, 0, .none⟩ k k _ rfl CL.out.1 CL.out.2.1 CL.out.2.2 (by unfold maxLen; omega) (by omega) ?_
            intro v' w' hown hgrow
            obtain ⟨ao, cap, rfl⟩ := own_form hown
            obtain ⟨hq0, hq1, hq2⟩ := qcells hgrow
            refine hK _ _ ?_; clear hK K
            refine wpAny_ready (rs := [0]) (by kernel_rfl) (by simp) ?_
            refine AllReady.cons rfl (fun K hK => ?_) AllReady.nil
            go_simp
            refine hK _ _ ?_; clear hK K
            refine wpAny_ready (rs := [5]) (by kernel_rfl) (by simp) ?_
            refine AllReady.cons rfl (fun K hK => ?_) AllReady.nil
            refine step_build rfl 85 _ rfl (dcells (.int .u64 a0) (.int .u64 a1) (.bool a2) (.slice ao k cap) (.bool a3) (.chan (some wr.heap.size))) (by kernel_rfl) ?_
            refine hK _ _ ?_; clear hK K
            refine wpAny_ready (rs := [6]) (by kernel_rfl) (by simp) ?_
            refine AllReady.cons rfl (fun K hK => ?_) AllReady.nil
            go_simp
            refine hK _ _ ?_; clear hK K
            refine wpAny_ready (rs := [7]) (by kernel_rfl) (by simp) ?_
            refine AllReady.cons rfl (fun K hK => ?_) AllReady.nil
            go_simp
            refine hK _ _ ?_; clear hK K
            refine wpAny_done (by kernel_rfl) ?_ _
            go_wp2
            go_meet
            case rel => exact ⟨_, _, rfl, mid_of hR hown hgrow⟩
        case rest =>
          obtain ⟨b, v, rfl, hM⟩ := hcut
          clear hmk hmR hmE hR hz hi hz0 hz1 hz2
          go_upto_region 12 with fail
          go_cut [] (fun wx => (a3 = true ∧ Aft w.heap.size k wr.heap.size (wr.heap.size + 1) b (.int .u64 a0) (.int .u64 a1) (.bool a2) v a0 a1 a2 w wx ∧ Watch w.heap.size k (wr.heap.size + 1) b v wx) ∨ (a3 = false ∧ Aft w.heap.size k wr.heap.size (wr.heap.size + 1) b (.int .u64 0) (.int .u64 0) (.bool false) (.slice .none 0 0) a0 a1 a2 w wx))
          case first =>
            cases a3
            · go_wp2_with fail
              refine (end_open b wr.heap.size (by have := hM.hb; omega) _ _ _ _ 0 0 0 false _ hM.d47 hM.fz hM.d49 hM.d50 hM.d51 hM.d52 hM.d53 hM.d54 hM.d55 hM.cend).mono ?_
              rintro e w' ⟨rfl, hw⟩
              have hA := aft_open hM hw
              clear hw
              go_wp2
              go_meet
              case rel => exact .inr ⟨by simp, hA⟩
            · go_wp2_with fail
              refine (end_ended b _ hM.d47 (hM.fz 47) hM.d53 hM.d55).mono ?_
              rintro e w' ⟨rfl, rfl⟩
              have hA := aft_ended hM
              go_wp2
              go_meet
              case rel => exact .inl ⟨by simp, hA⟩
          case rest =>
            clear hM
            rcases hcut with ⟨rfl, hA, hX⟩ | ⟨rfl, hA⟩
            · -- the watches had ended
              have h53 := hA.d53
              have h54 := hA.d54
              have hn26 := fun c => neq_chan 26 36 .both c Yba.underlying26
              go_wp2_with fail
              refine (closed_shut wr.heap.size 0 0 0 false _ hA.cend).mono ?_
              rintro e w' ⟨rfl, hw⟩
              obtain rfl := hw.symm
              clear hw
              go_wp2_with fail
              refine (trylock_free b 47 _ hA.d47 (hA.fz 47)).mono ?_
              rintro e w' ⟨rfl, rfl⟩
              go_wp2_with fail
              refine (unlock_held b 47 _ (World.cell?_setCell_same _ ⟨b, 47, .none⟩ _ hA.d47) (by simp [hA.fz 47])).mono ?_
              rintro e w' ⟨rfl, rfl⟩
              have hX2 := hX.keep (w' := (wc.setCell ⟨b, 47, .none⟩ (.int .i32 1)).setCell ⟨b, 47, .none⟩ (.int .i32 0)) (fun k h1 h2 => by rw [Below.heap_setCell _ _ _ _ (by show k ≠ b; omega), Below.heap_setCell _ _ _ _ (by show k ≠ b; omega)])
              have hA2 := hA.lock
              clear hA hX h53 h54 hn26
              revert hX2 hA2
              generalize (wc.setCell ⟨b, 47, .none⟩ (.int .i32 1)).setCell ⟨b, 47, .none⟩ (.int .i32 0) = w3
              intro hX2 hA2
              have h49 := hA2.d49
              have h50 := hA2.d50
              have h51 := hA2.d51
              have h52 := hA2.d52
              have hq0 := hA2.q0
              have hq1 := hA2.q1
              have hq2 := hA2.q2
              obtain ⟨ao, cap, rfl, hC⟩ := hX2.cells
              clear hX2
              go_wp2_with fail
              go_quiet (fail)
              have hA3 := hA2.drewN nq
              have hC3 := hC.drewN nq
              revert hA3 hC3
              clear hA2 hC h49 h50 h51 hq0 hq1 hq2
              have h52' : (w3.drewN nq).cell? ⟨b, 52, .none⟩ = some (.slice ao k cap) := h52
              revert h52'
              clear h52
              generalize w3.drewN nq = w4
              intro h52 hA3 hC3
              go_wp2
              clear h52
              go_loopw [17] (fun i wx => ∃ j : Nat, j ≤ k ∧ i = .int .i64 j ∧ Aft w.heap.size k wr.heap.size (wr.heap.size + 1) b (.int .u64 a0) (.int .u64 a1) (.bool a2) (.slice ao k cap) a0 a1 a2 w wx ∧ Cells w.heap.size k ao wx) (fun i _ => k - (intOf i).toNat)
              case atStart => exact ⟨0, Nat.zero_le _, rfl, hA3, hC3⟩
              case round =>
                clear hA3 hC3
                obtain ⟨j, hj, rfl, hA, hC⟩ := hrel
                have h52 := hA.d52
                have hn25 := fun c => neq_chan 25 29 .both c Yba.underlying25
                by_cases hjk : j < k
                · obtain ⟨g, rfl, hg⟩ := hC j hjk
                  have hcj := hA.row.cell hjk
                  go_wp2
                  go_quiet (fail)
                  have hA4 := hA.drewN nq
                  have hC4 := hC.drewN nq
                  clear hA hC hg hcj h52
                  go_wp2
                  go_roundw
                  case rel => exact ⟨j + 1, by omega, by go_num, hA4, hC4⟩
                  case measure => simp [intOf]; omega
                · clear h52 hn25
                  go_wp2
                  go_loop [18] (fun i => ∃ j : Nat, j ≤ k ∧ i = .int .i64 j) (fun i => k - (intOf i).toNat)
                  case atStart => exact ⟨0, Nat.zero_le _, rfl⟩
                  case round =>
                    obtain ⟨j, hj, rfl⟩ := hrel
                    by_cases hjk : j < k
                    · have hcj := hA.row.cell hjk
                      go_wp2_with fail
                      refine (closedR_open (w.heap.size + 1 + j) 0 0 0 false _ (hA.chans j hjk)).mono ?_
                      rintro e w' ⟨rfl, hw⟩
                      obtain rfl := hw.symm
                      clear hw
                      go_wp2
                      go_round
                      case rel => exact ⟨j + 1, by omega, by go_num⟩
                      case measure => simp [intOf]; omega
                    · go_wp2
                      go_ret
                      exact ⟨rfl, hA.below⟩
            · -- they had not
              have h53 := hA.d53
              have h54 := hA.d54
              have hn26 := fun c => neq_chan 26 36 .both c Yba.underlying26
              go_wp2_with fail
              refine (closed_shut wr.heap.size 0 0 0 false _ hA.cend).mono ?_
              rintro e w' ⟨rfl, hw⟩
              obtain rfl := hw.symm
              clear hw
              go_wp2_with fail
              refine (trylock_free b 47 _ hA.d47 (hA.fz 47)).mono ?_
              rintro e w' ⟨rfl, rfl⟩
              go_wp2_with fail
              refine (unlock_held b 47 _ (World.cell?_setCell_same _ ⟨b, 47, .none⟩ _ hA.d47) (by simp [hA.fz 47])).mono ?_
              rintro e w' ⟨rfl, rfl⟩
              have hA2 := hA.lock
              clear hA h53 h54 hn26
              revert hA2
              generalize (wc.setCell ⟨b, 47, .none⟩ (.int .i32 1)).setCell ⟨b, 47, .none⟩ (.int .i32 0) = w3
              intro hA2
              have h49 := hA2.d49
              have h50 := hA2.d50
              have h51 := hA2.d51
              have h52 := hA2.d52
              have hns := run_neq_slice_nil_any (P := Yba.prog) (t := 24) (e := 25) (h := Yba.underlying24)
              go_wp2
              clear h49 h50 h51 h52 hns
              go_loop [18] (fun i => ∃ j : Nat, j ≤ k ∧ i = .int .i64 j) (fun i => k - (intOf i).toNat)
              case atStart => exact ⟨0, Nat.zero_le _, rfl⟩
              case round =>
                obtain ⟨j, hj, rfl⟩ := hrel
                by_cases hjk : j < k
                · have hcj := hA2.row.cell hjk
                  go_wp2_with fail
                  refine (closedR_open (w.heap.size + 1 + j) 0 0 0 false _ (hA2.chans j hjk)).mono ?_
                  rintro e w' ⟨rfl, hw⟩
                  obtain rfl := hw.symm
                  clear hw
                  go_wp2
                  go_round
                  case rel => exact ⟨j + 1, by omega, by go_num⟩
                  case measure => simp [intOf]; omega
                · go_wp2
                  go_ret
                  exact ⟨rfl, hA2.below⟩
end Go.Proofs.Ybulkdxya
