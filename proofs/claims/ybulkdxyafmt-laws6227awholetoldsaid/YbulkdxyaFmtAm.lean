/- The hosts' map; the parts of countComponents: by contract. -/
import Derived.Test.YbulkdxyaFmtSmall
namespace Go.Proofs.YbulkdxyaFmt
open Go.RowKit Go.MapKept
set_option linter.unusedSimpArgs false
set_option linter.unusedVariables false

/-- The map at m holds the hosts that hm names. -/
def MM (w : World) (m : Nat) (hm : Int → Option Nat) : Prop :=
  ∃ es clock, w.heap[m]? = some (.map es clock) ∧ (∀ e ∈ es.toList, ∃ y h, e.key = .int .u64 y ∧ e.val = .pointer (some ⟨h, 0, none⟩)) ∧
    (∀ (i j : Nat) e e', es[i]? = some e → es[j]? = some e' → e.key = e'.key → i = j) ∧
    ∀ y h, hm y = some h ↔ ∃ e ∈ es.toList, e.key = .int .u64 y ∧ e.val = .pointer (some ⟨h, 0, none⟩)
theorem MM.empty {w : World} {m : Nat} (h : w.heap[m]? = some (.map #[] 0)) : MM w m (fun _ => none) := ⟨#[], 0, h, by simp, by simp, by simp⟩
theorem MM.keep {w w' : World} {m : Nat} {hm : Int → Option Nat} (h : MM w m hm) (hb : w'.heap[m]? = w.heap[m]?) : MM w' m hm := by
  obtain ⟨es, clock, h1, h2⟩ := h
  exact ⟨es, clock, hb.trans h1, h2⟩
theorem MM.lt {w : World} {m : Nat} {hm : Int → Option Nat} (h : MM w m hm) : m < w.heap.size := by
  obtain ⟨es, clock, h1, _⟩ := h
  exact (Array.getElem?_eq_some_iff.1 h1).1
theorem MM.ne {w : World} {m g : Nat} {hm : Int → Option Nat} {cs : Array Value} {t : TypeId} {fr : Nat × Nat} (h : MM w m hm) (hg : w.heap[g]? = some (.cells cs t fr)) : g ≠ m := fun e => by
  obtain ⟨es, clock, h1, _⟩ := h
  rw [e, h1] at hg
  cases hg
theorem zero51 (w : World) : (zeroValue 51).run Ybaf.prog w = .ok (.pointer none) w := by kernel_rfl
theorem look_host {w : World} {m : Nat} {hm : Int → Option Nat} (h : MM w m hm) (x : Int) : (Instr.lookup 35 (.map (some m)) (.int .u64 x) false).run Ybaf.prog w = .ok (.pointer ((hm x).map fun g => ⟨g, 0, none⟩)) w := by
  obtain ⟨es, clock, h1, h2, h3, h4⟩ := h
  have hkeys : ∀ e ∈ es.toList, MapKept.IsKey (.int .u64) e.key := fun e he => by obtain ⟨y, g, hy, _⟩ := h2 e he; rw [hy]; exact isKey64 y
  rcases MapKept.findNow_spec (isKey64 x) es.toList 0 hkeys with ⟨f1, f2⟩ | ⟨j, e, f1, f2, f3⟩
  · have hS : hm x = none := by
      rcases hq : hm x with _ | g
      · rfl
      · obtain ⟨e, he, hk, _⟩ := (h4 x g).1 hq
        exact absurd hk (f2 e he)
    simp only [Instr.lookup, Sem.run_bind, run_underlying Ybaf.underlying35, Result.andThen_ok, MapKept.run_getObj_map h1, Sem.run_pure, MapKept.run_checkKey Ybaf.underlying50 (isKey64 x), MapKept.run_findKey Ybaf.underlying50 f1, zero51, hS]
    rfl
  · obtain ⟨y, g, hy, hv⟩ := h2 e (List.mem_of_getElem? f2)
    have hS : hm x = some g := (h4 x g).2 ⟨e, List.mem_of_getElem? f2, f3, hv⟩
    rw [hv] at f1
    simp only [Instr.lookup, Sem.run_bind, run_underlying Ybaf.underlying35, Result.andThen_ok, MapKept.run_getObj_map h1, Sem.run_pure, MapKept.run_checkKey Ybaf.underlying50 (isKey64 x), MapKept.run_findKey Ybaf.underlying50 f1, hS]
    rfl
theorem upd_host {w : World} {m : Nat} {hm : Int → Option Nat} (h : MM w m hm) (x : Int) (g : Nat) : ∃ w', (Instr.mapUpdate 35 (.map (some m)) (.int .u64 x) (.pointer (some ⟨g, 0, none⟩))).run Ybaf.prog w = .ok () w' ∧ MM w' m (fun y => if y = x then some g else hm y) ∧ (∀ j, j ≠ m → w'.heap[j]? = w.heap[j]?) ∧ w'.heap.size = w.heap.size ∧ ∀ B, B ≤ m → Below B w w' := by
  obtain ⟨es, clock, h1, h2, h3, h4⟩ := h
  have hkeys : ∀ e ∈ es.toList, MapKept.IsKey (.int .u64) e.key := fun e he => by obtain ⟨y, g, hy, _⟩ := h2 e he; rw [hy]; exact isKey64 y
  have hout : ∀ (o : Obj), (∀ j, j ≠ m → ({ w with heap := w.heap.setIfInBounds m o } : World).heap[j]? = w.heap[j]?) ∧ ({ w with heap := w.heap.setIfInBounds m o } : World).heap.size = w.heap.size ∧ ∀ B, B ≤ m → Below B w { w with heap := w.heap.setIfInBounds m o } := fun o => by
    have hq := (MapKept.heap_set (o' := o) h1).2
    exact ⟨hq, by simp, fun B hB => ⟨rfl, rfl, rfl, by simp, fun k hk => hq k (by omega)⟩⟩
  rcases MapKept.findNow_spec (isKey64 x) es.toList 0 hkeys with ⟨f1, f2⟩ | ⟨j, e, f1, f2, f3⟩
  · refine ⟨{ w with heap := w.heap.setIfInBounds m (.map (es.push { key := .int .u64 x, val := .pointer (some ⟨g, 0, none⟩), born := clock }) (clock + 1)) }, ?_, ⟨_, _, (MapKept.heap_set h1).1, ?_, ?_, ?_⟩, hout _⟩
    · simp only [Instr.mapUpdate, Sem.run_bind, run_underlying Ybaf.underlying35, Result.andThen_ok, MapKept.run_getObj_map h1, Sem.run_pure, MapKept.run_checkKey Ybaf.underlying50 (isKey64 x), MapKept.run_findKey Ybaf.underlying50 f1, MapKept.run_setObj_map _ h1]
    · intro e he
      simp at he
      rcases he with he | rfl
      · exact h2 e (by simpa using he)
      · exact ⟨x, g, rfl, rfl⟩
    · intro a b ea eb ha hb hk
      rw [Array.getElem?_push] at ha hb
      have hnew : ∀ (i : Nat) (e' : _), es[i]? = some e' → e'.key ≠ .int .u64 x := fun i e' he' => f2 e' (by
        have : es.toList[i]? = some e' := by simpa using he'
        exact List.mem_of_getElem? this)
      by_cases ha1 : a = es.size
      · by_cases hb1 : b = es.size
        · omega
        · rw [if_pos ha1] at ha
          rw [if_neg hb1] at hb
          cases ha
          exact absurd hk.symm (hnew b eb hb)
      · rw [if_neg ha1] at ha
        by_cases hb1 : b = es.size
        · rw [if_pos hb1] at hb
          cases hb
          exact absurd hk (hnew a ea ha)
        · rw [if_neg hb1] at hb
          exact h3 a b ea eb ha hb hk
    · intro y q
      show (if y = x then some g else hm y) = some q ↔ _
      by_cases hy : y = x
      · subst hy
        rw [if_pos rfl]
        constructor
        · intro e
          cases e
          exact ⟨{ key := .int .u64 y, val := .pointer (some ⟨g, 0, none⟩), born := clock }, by simp, rfl, rfl⟩
        · rintro ⟨e, he, hk, hv⟩
          simp at he
          rcases he with he | rfl
          · exact absurd hk (f2 e (by simpa using he))
          · simp at hv
            rw [hv]
      · rw [if_neg hy, h4 y q]
        constructor
        · rintro ⟨e, he, hk, hv⟩
          exact ⟨e, by simp; exact .inl (by simpa using he), hk, hv⟩
        · rintro ⟨e, he, hk, hv⟩
          simp at he
          rcases he with he | rfl
          · exact ⟨e, by simpa using he, hk, hv⟩
          · simp at hk
            exact absurd hk.symm hy
  · rw [Nat.zero_add] at f1
    have hje : es[j]? = some e := by simpa using f2
    have hej : (es[j]?).map (·.key) = some (.int .u64 x) := by rw [hje]; simp [f3]
    have hsb : Instr.sameBits 10000 (.int .u64 x) (.int .u64 x) = true := by simp [Instr.sameBits]
    have hget : ∀ k, (es.modify j (fun e => { e with key := .int .u64 x, val := .pointer (some ⟨g, 0, none⟩) }))[k]? = if j = k then some { e with key := .int .u64 x, val := .pointer (some ⟨g, 0, none⟩) } else es[k]? := fun k => by
      rw [Array.getElem?_modify]
      split
      · rename_i hk
        subst hk
        rw [hje]
        rfl
      · rfl
    have hmem : ∀ e', e' ∈ (es.modify j (fun e => { e with key := .int .u64 x, val := .pointer (some ⟨g, 0, none⟩) })).toList ↔ ∃ k : Nat, (if j = k then some { e with key := .int .u64 x, val := .pointer (some ⟨g, 0, none⟩) } else es[k]?) = some e' := fun e' => by
      rw [Array.mem_toList_iff, Array.mem_iff_getElem?]
      constructor
      · rintro ⟨k, hk⟩
        exact ⟨k, (hget k).symm.trans hk⟩
      · rintro ⟨k, hk⟩
        exact ⟨k, (hget k).trans hk⟩
    refine ⟨{ w with heap := w.heap.setIfInBounds m (.map (es.modify j (fun e => { e with key := .int .u64 x, val := .pointer (some ⟨g, 0, none⟩) })) clock) }, ?_, ⟨_, _, (MapKept.heap_set h1).1, ?_, ?_, ?_⟩, hout _⟩
    · simp only [Instr.mapUpdate, Sem.run_bind, run_underlying Ybaf.underlying35, Result.andThen_ok, MapKept.run_getObj_map h1, Sem.run_pure, MapKept.run_checkKey Ybaf.underlying50 (isKey64 x), MapKept.run_findKey Ybaf.underlying50 f1, hej, Option.getD_some, Instr.keyThatStays, hsb, if_true, MapKept.run_setObj_map _ h1]
    · intro e' he'
      obtain ⟨k, hk⟩ := (hmem e').1 he'
      split at hk
      · cases hk
        exact ⟨x, g, rfl, rfl⟩
      · exact h2 e' (by
          have : es.toList[k]? = some e' := by simpa using hk
          exact List.mem_of_getElem? this)
    · intro a b ea eb ha hb hk
      rw [hget] at ha hb
      split at ha
      · rename_i ja
        split at hb
        · rename_i jb
          omega
        · cases ha
          subst ja
          exact h3 j b e eb hje hb (by rw [f3]; exact hk)
      · split at hb
        · rename_i jb
          cases hb
          subst jb
          exact h3 a j ea e ha hje (by rw [f3]; exact hk)
        · exact h3 a b ea eb ha hb hk
    · intro y q
      show (if y = x then some g else hm y) = some q ↔ _
      by_cases hy : y = x
      · subst hy
        rw [if_pos rfl]
        constructor
        · intro e0
          cases e0
          exact ⟨_, (hmem _).2 ⟨j, by rw [if_pos rfl]⟩, rfl, rfl⟩
        · rintro ⟨e', he', hk, hv⟩
          obtain ⟨k, hk'⟩ := (hmem e').1 he'
          split at hk'
          · cases hk'
            simp at hv
            rw [hv]
          · rename_i hjk
            exact absurd (h3 j k e e' hje hk' (by rw [f3, hk])) hjk
      · rw [if_neg hy, h4 y q]
        constructor
        · rintro ⟨e', he', hk, hv⟩
          obtain ⟨k, hk'⟩ := List.mem_iff_getElem?.1 he'
          refine ⟨e', (hmem e').2 ⟨k, ?_⟩, hk, hv⟩
          rw [if_neg]
          · simpa using hk'
          · intro hjk
            subst hjk
            have : es[j]? = some e' := by simpa using hk'
            rw [hje] at this
            cases this
            rw [f3] at hk
            simp at hk
            exact hy hk.symm
        · rintro ⟨e', he', hk, hv⟩
          obtain ⟨k, hk'⟩ := (hmem e').1 he'
          split at hk'
          · cases hk'
            simp at hk
            exact absurd hk.symm hy
          · exact ⟨e', List.mem_iff_getElem?.2 ⟨k, by simpa using hk'⟩, hk, hv⟩
end Go.Proofs.YbulkdxyaFmt
