/- Tokens in a row: the plain facts. -/
import Derived.Test.YbulkdxzcFmtExp
import Derived.Laws.AppendOwn
import Derived.Deep.DeepAppendWide
import Derived.Deep.AppendLies
import Derived.Laws.OwnMore
import Derived.Laws.CopyRow
namespace Go.Proofs.YbulkdxzcFmt
open Go.RowKit
set_option linter.unusedSimpArgs false
set_option linter.unusedVariables false

structure Tk where
  k : Int
  t : ByteArray
  f : ByteArray
  l : Int
  c : Int
def Tk.cells (x : Tk) : List Value := [.int .i64 x.k, .string x.t, .string x.f, .int .i64 x.l, .int .i64 x.c]
def flat (g : Nat → Tk) : Nat → List Value
  | 0 => []
  | m + 1 => flat g m ++ (g m).cells
theorem length_flat (g : Nat → Tk) (m : Nat) : (flat g m).length = m * 5 := by
  induction m with
  | zero => rfl
  | succ m ih => simp [flat, Tk.cells, ih]; omega
theorem flat_get (g : Nat → Tk) {m i j : Nat} (hi : i < m) (hj : j < 5) : (flat g m)[i * 5 + j]? = (g i).cells[j]? := by
  induction m with
  | zero => omega
  | succ m ih =>
    have hl := length_flat g m
    by_cases h : i < m
    · rw [flat, List.getElem?_append_left (by omega)]; exact ih h
    · obtain rfl : i = m := by omega
      rw [flat, List.getElem?_append_right (by omega), show i * 5 + j - (flat g i).length = j by omega]
theorem flat_congr {g g' : Nat → Tk} {m : Nat} (h : ∀ i, i < m → g i = g' i) : flat g m = flat g' m := by
  induction m with
  | zero => rfl
  | succ m ih => rw [flat, flat, ih (fun i hi => h i (by omega)), h m (by omega)]
theorem cells_one (x : Tk) : ∀ u ∈ x.cells, u.oneCell' = true := by
  intro u hu
  simp [Tk.cells] at hu
  rcases hu with rfl | rfl | rfl | rfl | rfl <;> rfl
theorem flat_one (g : Nat → Tk) (m : Nat) : ∀ u ∈ flat g m, u.oneCell' = true := by
  induction m with
  | zero => intro u hu; cases hu
  | succ m ih =>
    intro u hu
    rcases List.mem_append.1 hu with h | h
    · exact ih u h
    · exact cells_one _ u h

/-- The row at block T holds the tokens. -/
theorem tokAt_of {w : World} {T : Nat} {g : Nat → Tk} {m i : Nat} (h : ∀ j, j < m * 5 → w.cell? ⟨T, j, none⟩ = (flat g m)[j]?) (hi : i < m) : TokAt w T i (g i).k (g i).t (g i).f (g i).l (g i).c := by
  have q : ∀ j, j < 5 → w.cell? ⟨T, i * 5 + j, none⟩ = (g i).cells[j]? := fun j hj => (h _ (by omega)).trans (flat_get g hi hj)
  exact ⟨q 0 (by omega), q 1 (by omega), q 2 (by omega), q 3 (by omega), q 4 (by omega)⟩
theorem own_tok {w : World} {base T n cap : Nat} {g : Nat → Tk} (h : w.ownsRow base 31 5 (.slice (some ⟨T, 0, none⟩) n cap) n (flat g n)) {i : Nat} (hi : i < n) : TokAt w T i (g i).k (g i).t (g i).f (g i).l (g i).c :=
  tokAt_of (fun j hj => h.cellAt j hj) hi

/-- copy between two rows of elements of several cells. -/
theorem run_copy_wide {P : Program} (w : World) (dT sT ty elem : TypeId) (g o dLen dCap : Nat) (a : Addr) (sLen sCap sz : Nat) (cur : Array Value) (t : TypeId) (cs : List Value)
    (hu : P.underlying dT = some (.slice elem)) (hs : (P.info? elem).map (·.size) = some sz)
    (hg : w.heap[g]? = some (.cells cur t (0, 0))) (hn : cs.length = Nat.min sLen dLen * sz)
    (hsrc : ∀ j v, cs[j]? = some v → w.cell? (a.add j) = some v) (hfit : o + cs.length ≤ cur.size) (h1 : ∀ v ∈ cs, v.oneCell' = true) :
    (Builtin.copy_ #[dT, sT] ty #[.slice (some ⟨g, o, none⟩) dLen dCap, .slice (some a) sLen sCap]).run P w =
      .ok (goInt (Nat.min sLen dLen)) (w.setRow g (cur.toList.take o ++ cs ++ cur.toList.drop (o + cs.length)).toArray) := by
  have hl := run_loadCells_list (P := P) w a cs hsrc
  have hst := run_storeCells_at P g o t cs 0 cur w hg (by simpa using hfit) h1
  cases hq : P.info? elem with
  | none => simp [hq] at hs
  | some i =>
    have hi : i.size = sz := by simpa [hq] using hs
    simp [Builtin.copy_, run_underlying hu, Builtin.lenOf, Builtin.firstCells, sizeOf, typeInfo, hq, hi, ← hn, hl, hst]

theorem info31 : (Ybaf.prog.info? 31).map (fun i => (i.zero, i.size, i.bytes)) = some (some (.agg #[.int .i64 0, .string ⟨#[]⟩, .string ⟨#[]⟩, .int .i64 0, .int .i64 0]), 5, 56) := by kernel_rfl
end Go.Proofs.YbulkdxzcFmt
