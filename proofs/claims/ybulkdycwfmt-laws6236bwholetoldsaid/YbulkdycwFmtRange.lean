/- A range over a function, the rounds' order known: our own law. -/
import Derived.Test.YbulkdycwFmtUint
import Derived.RangeFuncNested
import Derived.RangeFuncBound
import Derived.RangeFuncCalls
import Derived.RangeFuncLeaves
import Derived.Shelf.Abstract
import Derived.Shelf.RegionOpen
import Derived.OwnWalkIn
import Derived.TacticsInMore
import Derived.LoopNIn
import Derived.LoopIn
namespace Go.Proofs.YbulkdycwFmt
open Go.RowKit Go.Shelf
set_option linter.unusedSimpArgs false
set_option linter.unusedVariables false

/-- What an iterator over a table of m entries does: each entry k that is announced is handed to yield as v k, in the table's order; the others are passed over. -/
def Iter (n : Nat) (P : Program) (gf : Nat) (lb : Array Value) (m : Nat) (ann : Nat → Bool) (v : Nat → Value) (I : Nat → World → Prop) : Prop :=
  ∀ (l : Nat) (J : Nat → World → Prop) (W : World), (∀ k W, J k W → I k W) → (∀ k W o, J k W → J k (W.alloc o)) → (∀ k W, k < m → ann k = false → J k W → J (k + 1) W) →
    (∀ k W, k < m → ann k = true → J k W → YieldAt Fence.wide (n - 1) P l #[v k] W fun e W' => e = .returned (.bool true) ∧ J (k + 1) W') → J 0 W →
    CallsIn Fence.wide n P gf (#[.func (.yield l) #[] #[]] ++ lb) W fun e W' => (∃ x, e = .returned x) ∧ J m W'

/-- An invariant of the caller's: new blocks, and a turn of a block from B on that holds no cells, leave it standing. -/
structure OwnAt (B : Nat) (I : Nat → World → Prop) : Prop where
  alloc : ∀ {k : Nat} {W : World} (o : Obj), I k W → I k (W.alloc o)
  putObj : ∀ {k : Nat} {W : World} {l : Nat} {o : Obj} (o' : Obj), B ≤ l → I k W → W.heap[l]? = some o → o.isCells = false → I k (W.putObj l o')

theorem wpIn_range_iter {n : Nat} {P : Program} {g : Operand} {ps : Array Tmp} {assign body : Code} {Q : Exit → Act → World → Prop} {a : Act} {w : World}
    {gf : Nat} {lb : Array Value} (hg : a.eval g = .func (.func gf) #[] lb) (eg : ∀ args w, (callFunc gf args).run P w = .ok (.enter gf args) w)
    {m : Nat} {ann : Nat → Bool} {v : Nat → Value} (I : Nat → World → Prop) (hit : Iter (n - 1) P gf lb m ann v I) (hps : ps.size = 1)
    (hI : OwnAt w.heap.size I) (hskip : ∀ k W, k < m → ann k = false → I k W → I (k + 1) W) (h0 : I 0 w) (a₁ : Nat → Act)
    (hassign : ∀ (l k : Nat) (W : World) (K : Act → World → Prop), K (a₁ k) W →
      assign.wpIn (Fence.wide.inRound l) (n - 1 - 1) P (Exit.then K (fun _ _ _ => False)) { tmps := (ps.zip #[v k]).foldl (fun t (p, x) => t.setIfInBounds p x) a.tmps, defers := [] } W)
    (hbody : ∀ (l k : Nat) (W : World), k < m → ann k = true → I k W → body.wpIn (Fence.wide.inRound l) (n - 1 - 1) P (Exit.then (fun _ W' => KeepsOthers W W' ∧ I (k + 1) W') (fun _ _ _ => False)) (a₁ k) W)
    (hdone : ∀ (D : Nat) (W : World), w.heap.size ≤ D → I m W → W.heap[D]? = some (.deferred (some [])) → Q .normal { a with defers := { target := .collected D, args := #[] } :: a.defers } W) :
    (Code.rangeFunc g ps assign body).wpIn Fence.wide n P Q a w := by
  refine wpIn_rangeFunc fun fn hfn => ?_
  let rec_ : LoopState → Loop := fun st => { state := st, pending := none, fn, tmps := a.tmps, params := ps, assign, body, defers := w.heap.size }
  have hnew : ((w.alloc (.deferred (some []))).alloc (.loop (rec_ .ready))).heap[w.heap.size + 1]? = some (.loop (rec_ .ready)) := by
    have := World.alloc_heap_new (w.alloc (.deferred (some []))) (.loop (rec_ .ready)); rwa [World.size_alloc] at this
  have hdef : ((w.alloc (.deferred (some []))).alloc (.loop (rec_ .ready))).heap[w.heap.size]? = some (.deferred (some [])) :=
    (Below.heap_alloc _ _ _ (by simp)).trans (World.alloc_heap_new w _)
  refine ⟨w.heap.size + 1, [{ target := .collected w.heap.size, args := #[] }], _, { target := .fn (.func gf) lb, args := #[.func (.yield (w.heap.size + 1)) #[] #[]] }, (w.alloc (.deferred (some []))).alloc (.loop (rec_ .ready)), gf, #[.func (.yield (w.heap.size + 1)) #[] #[]] ++ lb, (w.alloc (.deferred (some []))).alloc (.loop (rec_ .ready)),
    run_enterLoop_outer _ _ _ _ _, ?_, fun f' hf' => trivial, ?_, (fun h => by cases h), ?_⟩
  · simp only [resolve, hg]
    simp [go_sem]
    rfl
  · simp [invoke, go_sem, eg]
  · refine (hit (w.heap.size + 1) (fun k W => I k W ∧ W.heap[w.heap.size + 1]? = some (.loop (rec_ .ready)) ∧ W.heap[w.heap.size]? = some (.deferred (some []))) _ (fun k W h => h.1) (fun k W o h => ⟨hI.alloc o h.1, ?_, ?_⟩) (fun k W hk hann h => ⟨hskip k W hk hann h.1, h.2⟩) (fun k W hk hann h => ?_) ⟨hI.alloc _ (hI.alloc _ h0), hnew, hdef⟩).mono ?_
    · exact (Below.heap_alloc _ _ _ (Array.getElem?_eq_some_iff.1 h.2.1).1).trans h.2.1
    · exact (Below.heap_alloc _ _ _ (Array.getElem?_eq_some_iff.1 h.2.2).1).trans h.2.2
    · obtain ⟨hi, hl, hd⟩ := h
      have hlt : w.heap.size + 1 < W.heap.size := (Array.getElem?_eq_some_iff.1 hl).1
      refine ⟨fn, _, assign, body, run_yield (r := rec_ .ready) (args := #[v k]) hl hps.symm, roundIn_of_wpIn trivial (hassign _ k W _ ⟨_, run_beginRound (r := rec_ .ready) hl rfl, ?_⟩)⟩
      have hl2 : (W.putObj (w.heap.size + 1) (.loop { rec_ .ready with state := .busy })).heap[w.heap.size + 1]? = some (.loop { rec_ .ready with state := .busy }) := World.putObj_heap_same hlt
      have hd2 : (W.putObj (w.heap.size + 1) (.loop { rec_ .ready with state := .busy })).heap[w.heap.size]? = some (.deferred (some [])) := (World.putObj_heap_other (by omega)).trans hd
      refine wpIn_mono (hbody (w.heap.size + 1) k _ hk hann (hI.putObj _ (by omega) hi hl rfl)) ?_
      intro e a3 W3 hp
      cases e with
      | normal =>
        obtain ⟨hk3, hi3⟩ := hp
        have hl3 := hk3.same _ _ hl2 rfl
        have hd3 := hk3.same _ _ hd2 rfl
        exact ⟨_, _, run_endRound (r := { rec_ .ready with state := .busy }) none hl3, rfl, hI.putObj _ (by omega) hi3 hl3 rfl, World.putObj_heap_same (Array.getElem?_eq_some_iff.1 hl3).1, (World.putObj_heap_other (by omega)).trans hd3⟩
      | ret => exact hp.elim
      | exit id => exact hp.elim
      | goto t => exact hp.elim
      | panic ch => exact hp.elim
      | outgrown => exact hp.elim
    · rintro e W2 ⟨⟨x, rfl⟩, hi, hl, hd⟩
      exact ⟨none, _, run_endLoop (r := rec_ .ready) hl (by simp [rec_]), hdone _ _ (Nat.le_refl _) (hI.putObj _ (by omega) hi hl rfl) ((World.putObj_heap_other (by omega)).trans hd)⟩
end Go.Proofs.YbulkdycwFmt
