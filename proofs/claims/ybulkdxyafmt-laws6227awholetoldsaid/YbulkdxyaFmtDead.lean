/- The map of the dead: look up, lay in; foundDead: by contract. -/
import Derived.Test.YbulkdxyaFmtKnows
import Derived.MapKept
namespace Go.Proofs.YbulkdxyaFmt
open Go.RowKit Go.MapKept
set_option linter.unusedSimpArgs false
set_option linter.unusedVariables false

abbrev z8 : Array Value := #[.int .i64 0, .bool false, .slice none 0 0, .int .i64 0, .int .i64 0, .bool false, .int .u64 0, .bool false]
/-- The map at m holds just the identifiers of S. -/
def DMap (w : World) (m : Nat) (S : Int → Bool) : Prop :=
  ∃ es clock, w.heap[m]? = some (.map es clock) ∧ (∀ e ∈ es.toList, ∃ y, e.key = .int .u64 y) ∧ (∀ y, S y = true ↔ ∃ e ∈ es.toList, e.key = .int .u64 y) ∧ ∀ e ∈ es.toList, e.val = .agg z8
theorem DMap.empty {w : World} {m : Nat} (h : w.heap[m]? = some (.map #[] 0)) : DMap w m (fun _ => false) := ⟨#[], 0, h, by simp, by simp, by simp⟩
theorem DMap.keep {w w' : World} {m : Nat} {S : Int → Bool} (h : DMap w m S) (hb : w'.heap[m]? = w.heap[m]?) : DMap w' m S := by
  obtain ⟨es, clock, h1, h2⟩ := h
  exact ⟨es, clock, hb.trans h1, h2⟩
theorem DMap.lt {w : World} {m : Nat} {S : Int → Bool} (h : DMap w m S) : m < w.heap.size := by
  obtain ⟨es, clock, h1, _⟩ := h
  exact (Array.getElem?_eq_some_iff.1 h1).1
theorem zero99 (w : World) : (zeroValue 99).run Ybaf.prog w = .ok (.agg z8) w := by kernel_rfl
theorem isKey64 (x : Int) : MapKept.IsKey (.int .u64) (.int .u64 x) := by simp [MapKept.IsKey]

theorem look_dead {w : World} {m : Nat} {S : Int → Bool} (h : DMap w m S) (x : Int) : (Instr.lookup 83 (.map (some m)) (.int .u64 x) true).run Ybaf.prog w = .ok (.tuple #[.agg z8, .bool (S x)]) w := by
  obtain ⟨es, clock, h1, h2, h3, h4⟩ := h
  have hkeys : ∀ e ∈ es.toList, MapKept.IsKey (.int .u64) e.key := fun e he => by obtain ⟨y, hy⟩ := h2 e he; rw [hy]; exact isKey64 y
  rcases MapKept.findNow_spec (isKey64 x) es.toList 0 hkeys with ⟨f1, f2⟩ | ⟨j, e, f1, f2, f3⟩
  · have hS : S x = false := by
      rcases hq : S x with _ | _
      · rfl
      · obtain ⟨e, he, hk⟩ := (h3 x).1 hq
        exact absurd hk (f2 e he)
    simp only [Instr.lookup, Sem.run_bind, run_underlying Ybaf.underlying83, Result.andThen_ok, MapKept.run_getObj_map h1, Sem.run_pure, MapKept.run_checkKey Ybaf.underlying50 (isKey64 x), MapKept.run_findKey Ybaf.underlying50 f1, zero99, hS]
    rfl
  · have hS : S x = true := (h3 x).2 ⟨e, List.mem_of_getElem? f2, f3⟩
    have hv := h4 e (List.mem_of_getElem? f2)
    rw [hv] at f1
    simp only [Instr.lookup, Sem.run_bind, run_underlying Ybaf.underlying83, Result.andThen_ok, MapKept.run_getObj_map h1, Sem.run_pure, MapKept.run_checkKey Ybaf.underlying50 (isKey64 x), MapKept.run_findKey Ybaf.underlying50 f1, hS]
    rfl
theorem upd_dead {w : World} {m : Nat} {S : Int → Bool} (h : DMap w m S) (x : Int) : ∃ w', (Instr.mapUpdate 83 (.map (some m)) (.int .u64 x) (.agg z8)).run Ybaf.prog w = .ok () w' ∧ DMap w' m (fun y => S y || y == x) ∧ (∀ j, j ≠ m → w'.heap[j]? = w.heap[j]?) ∧ w'.heap.size = w.heap.size ∧ ∀ B, B ≤ m → Below B w w' := by
  obtain ⟨es, clock, h1, h2, h3, h4⟩ := h
  have hkeys : ∀ e ∈ es.toList, MapKept.IsKey (.int .u64) e.key := fun e he => by obtain ⟨y, hy⟩ := h2 e he; rw [hy]; exact isKey64 y
  have hout : ∀ (o : Obj), (∀ j, j ≠ m → ({ w with heap := w.heap.setIfInBounds m o } : World).heap[j]? = w.heap[j]?) ∧ ({ w with heap := w.heap.setIfInBounds m o } : World).heap.size = w.heap.size ∧ ∀ B, B ≤ m → Below B w { w with heap := w.heap.setIfInBounds m o } := fun o => by
    have hq := (MapKept.heap_set (o' := o) h1).2
    exact ⟨hq, by simp, fun B hB => ⟨rfl, rfl, rfl, by simp, fun k hk => hq k (by omega)⟩⟩
  rcases MapKept.findNow_spec (isKey64 x) es.toList 0 hkeys with ⟨f1, f2⟩ | ⟨j, e, f1, f2, f3⟩
  · refine ⟨{ w with heap := w.heap.setIfInBounds m (.map (es.push { key := .int .u64 x, val := .agg z8, born := clock }) (clock + 1)) }, ?_, ⟨_, _, (MapKept.heap_set h1).1, ?_, ?_, ?_⟩, hout _⟩
    · simp only [Instr.mapUpdate, Sem.run_bind, run_underlying Ybaf.underlying83, Result.andThen_ok, MapKept.run_getObj_map h1, Sem.run_pure, MapKept.run_checkKey Ybaf.underlying50 (isKey64 x), MapKept.run_findKey Ybaf.underlying50 f1, MapKept.run_setObj_map _ h1]
    · intro e he
      simp at he
      rcases he with he | rfl
      · exact h2 e (by simpa using he)
      · exact ⟨x, rfl⟩
    · intro y
      simp only [Bool.or_eq_true, beq_iff_eq, h3 y]
      constructor
      · rintro (⟨e, he, hk⟩ | rfl)
        · exact ⟨e, by simp; exact .inl (by simpa using he), hk⟩
        · exact ⟨{ key := .int .u64 y, val := .agg z8, born := clock }, by simp, rfl⟩
      · rintro ⟨e, he, hk⟩
        simp at he
        rcases he with he | rfl
        · exact .inl ⟨e, by simpa using he, hk⟩
        · right
          simpa using hk.symm
    · intro e he
      simp at he
      rcases he with he | rfl
      · exact h4 e (by simpa using he)
      · rfl
  · have hv := h4 e (List.mem_of_getElem? f2)
    have hS : S x = true := (h3 x).2 ⟨e, List.mem_of_getElem? f2, f3⟩
    rw [Nat.zero_add] at f1
    have hej : (es[j]?).map (·.key) = some (.int .u64 x) := by
      have : es[j]? = some e := by simpa using f2
      rw [this]; simp [f3]
    have hfun : (fun y => S y || y == x) = S := by
      funext y
      by_cases hy : y = x
      · subst hy; simp [hS]
      · simp [hy]
    rw [hfun]
    have hmod : es.modify j (fun e => { e with key := .int .u64 x, val := .agg z8 }) = es := by
      apply Array.ext_getElem?
      intro k
      rw [Array.getElem?_modify]
      split
      · rename_i hk
        subst hk
        have : es[j]? = some e := by simpa using f2
        rw [this]
        simp [← hv, ← f3]
      · rfl
    refine ⟨{ w with heap := w.heap.setIfInBounds m (.map es clock) }, ?_, ⟨es, clock, (MapKept.heap_set h1).1, h2, h3, h4⟩, hout _⟩
    have hsb : Instr.sameBits 10000 (.int .u64 x) (.int .u64 x) = true := by simp [Instr.sameBits]
    simp only [Instr.mapUpdate, Sem.run_bind, run_underlying Ybaf.underlying83, Result.andThen_ok, MapKept.run_getObj_map h1, Sem.run_pure, MapKept.run_checkKey Ybaf.underlying50 (isKey64 x), MapKept.run_findKey Ybaf.underlying50 f1, hej, Option.getD_some, Instr.keyThatStays, hsb, if_true, hmod, MapKept.run_setObj_map _ h1]

set_option maxRecDepth 100000 in
set_option maxHeartbeats 2000000 in
theorem foundDead_calls (N m3 : Nat) (S : Int → Bool) (x : Int) (w : World) (c39 : w.cell? ⟨N, 39, none⟩ = some (.map (some m3))) (hm : DMap w m3 S) :
    Calls Ybaf.prog 43 #[.pointer (some ⟨N, 0, none⟩), .int .u64 x] w fun e w' => e = .returned (.bool (S x)) ∧ Below w.heap.size w w' := by
  have hl := look_dead hm x
  clear hm
  go_enter Ybaf.func43, Ybaf.ntmps43
  go_wp2_with fail
  go_ret
  exact ⟨rfl, (Below.refl _ _).alloc (Nat.le_refl _) _⟩
end Go.Proofs.YbulkdxyaFmt
