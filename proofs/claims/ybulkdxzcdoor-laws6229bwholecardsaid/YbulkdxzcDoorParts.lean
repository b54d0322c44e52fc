/- What ReadAll keeps: plain lemmas, no walk. -/
import Derived.Test.YbulkdxzcDoorRead
namespace Go.Proofs.YbulkdxzcDoor
open Go.RowKit
set_option linter.unusedSimpArgs false
set_option linter.unusedVariables false

theorem info5 : (Ybad.prog.info? 5).map (fun i => (i.zero, i.size, i.bytes)) = some (some (.int .u8 0), 1, 1) := by kernel_rfl
theorem info22 : (Ybad.prog.info? 22).map (fun i => (i.zero, i.size, i.bytes)) = some (some (.slice none 0 0), 1, 24) := by kernel_rfl

/-- 'append([]byte(nil), make([]byte, n)...)'. -/
theorem run_append_make (n : Nat) (h0 : 0 < n) (hn : n ≤ 1099511627776) (ty : TypeId) (w : World) :
    (Builtin.append_ #[22, 3] ty #[.slice none 0 0, .int .i64 (n : Int)]).run Ybad.prog w =
      .ok (.slice (some ⟨w.heap.size, 0, none⟩) n (grownCap w n 0 5)) (w.drew.alloc (.cells (Builtin.zeroCells #[.int .u8 0] n ++ Builtin.zeroCells #[.int .u8 0] (grownCap w n 0 5 - n)) 5)) := by
  obtain ⟨i, hi, hz, hs, hb⟩ := info_parts info5
  have hn0 : n ≠ 0 := by omega
  have h63' : ¬ (9223372036854775807 < (n : Int)) := by omega
  have h48' : ¬ (281474976710656 < Builtin.nextslicecap n 0 * i.bytes) := by rw [nextslicecap_zero h0, hb]; omega
  have hw : IntKind.i64.wrap (n : Int) = (n : Int) := wrap_small _ (by omega) (by omega)
  have hneg : ¬ ((n : Int) < 0) := by omega
  have hle : ¬ ((n : Int) ≤ 0) := by omega
  have hmx : max (n : Int) 0 = (n : Int) := by omega
  have h48 : ¬ (281474976710656 < (n : Int) * (i.bytes : Int)) := by rw [hb]; omega
  simp [Builtin.append_, run_underlying Ybad.underlying22, run_underlying Ybad.underlying3, sizeOf, typeInfo, zeroValue, hi, hz, hs, asInt, asIntOf, hw, hneg, hle, hmx, h48, hn0, h63', h48', Question.forced, run_firstCells_none, newRow, grownCap, Value.cells]

theorem wpList_append_eq {P : Program} {w : World} {ops : Array Oper} {rest : List Oper} {o : Oper} {a : Act} {Q : Exit → Act → World → Prop} (hgd : o.guard = none) (s x : Operand) (ats : Array TypeId)
    (ho : o.op = .call { callee := .builtin .append, args := #[s, x], argTypes := ats }) (vs vx : Value) (hs : a.eval s = vs) (hx : a.eval x = vx) (v' : Value) (w' : World)
    (hrun : ∀ ty, (Builtin.append_ ats ty #[vs, vx]).run P w = .ok v' w') (h : wpList P ops Q rest (a.put o.dst v') w') : wpList P ops Q (o :: rest) a w := by
  refine wpList_plain hgd fun K hK => ?_
  unfold Oper.wp
  simp [execOp, ho, resolve, invoke, builtin, hs, hx, hrun, Result.andThen]
  exact hK _ _ h

theorem seg_add (dv : Nat → Int) (k m m' : Nat) : seg dv k (m + m') = seg dv k m ++ seg dv (k + m) m' := by
  simp only [seg, List.range_add, List.map_append, List.map_map, List.append_cancel_left_eq]
  apply List.map_congr_left
  intro j _
  simp [Nat.add_assoc]
theorem seg_one (dv : Nat → Int) (k m : Nat) : ∀ u ∈ seg dv k m, u.oneCell' = true := by
  intro u hu
  simp only [seg, List.mem_map] at hu
  obtain ⟨j, _, rfl⟩ := hu
  rfl

/-- A filled piece: block g holds, from its head on, the m bytes from o on. -/
def Piece (dv : Nat → Int) (w : World) (g o m : Nat) : Prop := ∃ cur : List Value, w.heap[g]? = some (.cells cur.toArray 5 (0, 0)) ∧ m ≤ cur.length ∧ cur.take m = seg dv o m

theorem Piece.cells {dv : Nat → Int} {w : World} {g o m : Nat} (h : Piece dv w g o m) : ∀ j u, (seg dv o m)[j]? = some u → w.cell? ((⟨g, 0, none⟩ : Addr).add j) = some u := by
  obtain ⟨cur, hg, hm, ht⟩ := h
  intro j u hj
  have hjm : j < m := by
    have := List.getElem?_eq_some_iff.1 hj
    obtain ⟨h1, _⟩ := this
    rwa [length_seg] at h1
  rw [← ht, List.getElem?_take, if_pos hjm] at hj
  have e : (⟨g, 0, none⟩ : Addr).add j = ⟨g, j, none⟩ := by
    by_cases e : j = 0
    · subst e; rfl
    · simp [Addr.add, e]
  rw [e]
  exact cell_of hg (by simpa using hj)
theorem Piece.keep {dv : Nat → Int} {w w' : World} {g o m : Nat} (h : Piece dv w g o m) (e : w'.heap[g]? = w.heap[g]?) : Piece dv w' g o m := by
  obtain ⟨cur, hg, hm, ht⟩ := h
  exact ⟨cur, e.trans hg, hm, ht⟩

/-- The chunks: (block, length, capacity) each, their bytes one behind the other from o on; all their blocks from B on and below hi. -/
def Chunks (dv : Nat → Int) (w : World) (B hi : Nat) : Nat → List (Nat × Nat × Nat) → Prop
  | _, [] => True
  | o, c :: t => (B ≤ c.1 ∧ c.1 < hi ∧ Piece dv w c.1 o c.2.1) ∧ Chunks dv w B hi (o + c.2.1) t
def total : List (Nat × Nat × Nat) → Nat
  | [] => 0
  | c :: t => c.2.1 + total t
def vals (C : List (Nat × Nat × Nat)) : List Value := C.map fun c => Value.slice (some ⟨c.1, 0, none⟩) c.2.1 c.2.2

theorem Chunks.keep {dv : Nat → Int} {w w' : World} {B hi hi' : Nat} (hh : hi ≤ hi') : ∀ {o : Nat} {C : List (Nat × Nat × Nat)}, Chunks dv w B hi o C → (∀ g o m, B ≤ g → g < hi → Piece dv w g o m → w'.heap[g]? = w.heap[g]?) → Chunks dv w' B hi' o C
  | _, [], _, _ => trivial
  | o, c :: t, ⟨⟨h1, h2, h3⟩, h4⟩, hk => ⟨⟨h1, by omega, h3.keep (hk _ _ _ h1 h2 h3)⟩, Chunks.keep hh h4 hk⟩
theorem total_snoc (C : List (Nat × Nat × Nat)) (c : Nat × Nat × Nat) : total (C ++ [c]) = total C + c.2.1 := by
  induction C with
  | nil => simp [total]
  | cons a t ih => simp [total, ih, Nat.add_assoc]
theorem Chunks.snoc {dv : Nat → Int} {w : World} {B hi : Nat} : ∀ {o : Nat} {C : List (Nat × Nat × Nat)} {c : Nat × Nat × Nat}, Chunks dv w B hi o C → B ≤ c.1 → c.1 < hi → Piece dv w c.1 (o + total C) c.2.1 → Chunks dv w B hi o (C ++ [c])
  | o, [], c, _, h1, h2, h3 => ⟨⟨h1, h2, by simpa [total] using h3⟩, trivial⟩
  | o, a :: t, c, ⟨h4, h5⟩, h1, h2, h3 => ⟨h4, Chunks.snoc h5 h1 h2 (by simpa [total, Nat.add_assoc] using h3)⟩
theorem Chunks.at {dv : Nat → Int} {w : World} {B hi : Nat} : ∀ {o : Nat} {C : List (Nat × Nat × Nat)} {i : Nat} (hi' : i < C.length), Chunks dv w B hi o C → B ≤ (C[i]).1 ∧ (C[i]).1 < hi ∧ Piece dv w (C[i]).1 (o + total (C.take i)) (C[i]).2.1
  | o, a :: t, 0, _, ⟨h4, _⟩ => by simpa [total] using h4
  | o, a :: t, i + 1, h, ⟨_, h5⟩ => by
    have := Chunks.at (i := i) (by simpa using h) h5
    simpa [total, Nat.add_assoc] using this
theorem total_take_succ (C : List (Nat × Nat × Nat)) (i : Nat) (h : i < C.length) : total (C.take (i + 1)) = total (C.take i) + (C[i]).2.1 := by
  rw [List.take_succ_eq_append_getElem h, total_snoc]
theorem total_take_le (C : List (Nat × Nat × Nat)) (i : Nat) : total (C.take i) ≤ total C := by
  induction C generalizing i with
  | nil => simp [total]
  | cons a t ih =>
    cases i with
    | zero => simp [total]
    | succ i => simp only [List.take_succ_cons, total]; have := ih i; omega
end Go.Proofs.YbulkdxzcDoor
