/- (*sum).push by contract. -/
import Derived.Test.YbulkdxzcBig
import Derived.Deep.RegionLawGrows
import Derived.Deep.DeepCutAuto
import Derived.Deep.CutBlock
import Derived.BigQuiet
import Derived.Deep.QuietTactic
namespace Go.Proofs.Ybulkdxzc
open Go.RowKit
set_option linter.unusedSimpArgs false
set_option linter.unusedVariables false

theorem info29 : (Yba.prog.info? 29).map (fun i => (i.zero, i.size, i.bytes)) = some (some (.agg #[.pointer none, .int .i64 0]), 2, 16) := by kernel_rfl

/-- What push leaves. S: the sum's block, T: the terms' block. -/
structure Pushed (S T n : Nat) (cp : Option Addr) (sig refs : Int) (w w' : World) : Prop where
  s0 : ∃ T' cap', w'.cell? ⟨S, 0, none⟩ = some (.slice (some ⟨T', 0, none⟩) (n + 1) cap') ∧ (∀ j v, j < n * 2 → w.cell? ⟨T, j, none⟩ = some v → w'.cell? ⟨T', j, none⟩ = some v) ∧ w'.cell? ⟨T', n * 2, none⟩ = some (.pointer cp) ∧ w'.cell? ⟨T', n * 2 + 1, none⟩ = some (.int .i64 sig)
  s1 : w'.cell? ⟨S, 1, none⟩ = some (.int .i64 (if sig < 0 then wrap64 (refs + 1) else refs))
  s2 : ∀ k, 2 ≤ k → w'.cell? ⟨S, k, none⟩ = w.cell? ⟨S, k, none⟩
  told : ∀ j, j < n * 2 → w'.cell? ⟨T, j, none⟩ = w.cell? ⟨T, j, none⟩
  other : ∀ k, k < w.heap.size → k ≠ S → k ≠ T → w'.heap[k]? = w.heap[k]?
  below : ∀ B, B ≤ S → B ≤ T → B ≤ w.heap.size → Below B w w'

theorem al2_heap (w : World) (o o' : Obj) (k : Nat) (hk : k < w.heap.size) : ((w.alloc o).alloc o').drew.heap[k]? = w.heap[k]? := by
  show ((w.alloc o).alloc o').heap[k]? = _
  rw [Below.heap_alloc _ _ _ (by simp; omega), Below.heap_alloc _ _ _ hk]
theorem al2_cell (w : World) (o o' : Obj) (k i : Nat) (hk : k < w.heap.size) : ((w.alloc o).alloc o').drew.cell? ⟨k, i, none⟩ = w.cell? ⟨k, i, none⟩ := World.cell?_of_block (al2_heap w o o' k hk)

theorem pushed_room {S T n cap : Nat} {cp : Option Addr} {sig refs : Int} {x0 x1 : Value} {w : World} {o o' : Obj}
    (h0 : w.cell? ⟨S, 0, none⟩ = some (.slice (some ⟨T, 0, none⟩) n cap)) (h1 : w.cell? ⟨S, 1, none⟩ = some (.int .i64 refs)) 
    (t0 : w.cell? ⟨T, n * 2, none⟩ = some x0) (t1 : w.cell? ⟨T, n * 2 + 1, none⟩ = some x1) (hST : S ≠ T) (hTS : T ≠ S) (hs : S < w.heap.size) (ht : T < w.heap.size) (r : Int) (hr : r = if sig < 0 then wrap64 (refs + 1) else refs) (W : World)
    (hW : W = ((w.setCell ⟨T, n * 2, none⟩ (.pointer cp)).setCell ⟨T, n * 2 + 1, none⟩ (.int .i64 sig)).setCell ⟨S, 0, none⟩ (.slice (some ⟨T, 0, none⟩) (n + 1) cap) ∧ r = refs ∨ W = (((w.setCell ⟨T, n * 2, none⟩ (.pointer cp)).setCell ⟨T, n * 2 + 1, none⟩ (.int .i64 sig)).setCell ⟨S, 0, none⟩ (.slice (some ⟨T, 0, none⟩) (n + 1) cap)).setCell ⟨S, 1, none⟩ (.int .i64 r)) :
    Pushed S T n cp sig refs w ((W.alloc o).alloc o').drew := by
  have hz : W.heap.size = w.heap.size := by rcases hW with ⟨rfl, _⟩ | rfl <;> simp
  have ho : ∀ k, k ≠ S → k ≠ T → W.heap[k]? = w.heap[k]? := fun k e1 e2 => by
    rcases hW with ⟨rfl, _⟩ | rfl
    · rw [Below.heap_setCell _ _ _ _ e1, Below.heap_setCell _ _ _ _ e2, Below.heap_setCell _ _ _ _ e2]
    · rw [Below.heap_setCell _ _ _ _ e1, Below.heap_setCell _ _ _ _ e1, Below.heap_setCell _ _ _ _ e2, Below.heap_setCell _ _ _ _ e2]
  have c0 : W.cell? ⟨S, 0, none⟩ = some (.slice (some ⟨T, 0, none⟩) (n + 1) cap) := by rcases hW with ⟨rfl, _⟩ | rfl <;> simp [go_sem, h0, hTS]
  have c1 : W.cell? ⟨S, 1, none⟩ = some (.int .i64 r) := by
    rcases hW with ⟨rfl, h⟩ | rfl
    · simp [go_sem, h1, hTS, h]
    · simp [go_sem, h1, hTS]
  have c2 : ∀ k, 2 ≤ k → W.cell? ⟨S, k, none⟩ = w.cell? ⟨S, k, none⟩ := fun k hk => by
    have e0 : ¬ 0 = k := by omega
    have e1 : ¬ 1 = k := by omega
    rcases hW with ⟨rfl, _⟩ | rfl
    · rw [World.cell?_setCell_other _ _ _ _ (by simp [e0]), World.cell?_setCell_other _ _ _ _ (by simp [hTS]), World.cell?_setCell_other _ _ _ _ (by simp [hTS])]
    · rw [World.cell?_setCell_other _ _ _ _ (by simp [e1]), World.cell?_setCell_other _ _ _ _ (by simp [e0]), World.cell?_setCell_other _ _ _ _ (by simp [hTS]), World.cell?_setCell_other _ _ _ _ (by simp [hTS])]
  have ct : ∀ j, W.cell? ⟨T, j, none⟩ = ((w.setCell ⟨T, n * 2, none⟩ (.pointer cp)).setCell ⟨T, n * 2 + 1, none⟩ (.int .i64 sig)).cell? ⟨T, j, none⟩ := fun j => by
    rcases hW with ⟨rfl, _⟩ | rfl
    · rw [World.cell?_setCell_other _ _ _ _ (by simp [hST])]
    · rw [World.cell?_setCell_other _ _ _ _ (by simp [hST]), World.cell?_setCell_other _ _ _ _ (by simp [hST])]
  have ctl : ∀ j, j < n * 2 → W.cell? ⟨T, j, none⟩ = w.cell? ⟨T, j, none⟩ := fun j hj => by
    have e0 : ¬ n * 2 = j := by omega
    have e1 : ¬ n * 2 + 1 = j := by omega
    rw [ct j, World.cell?_setCell_other _ _ _ _ (by simp [e1]), World.cell?_setCell_other _ _ _ _ (by simp [e0])]
  refine ⟨⟨T, cap, (al2_cell W o o' S 0 (by omega)).trans c0, fun j v hj hv => (al2_cell W o o' T j (by omega)).trans ((ctl j hj).trans hv), (al2_cell W o o' T _ (by omega)).trans ?_, (al2_cell W o o' T _ (by omega)).trans ?_⟩, (al2_cell W o o' S 1 (by omega)).trans (by rw [c1, hr]), fun k hk => (al2_cell W o o' S k (by omega)).trans (c2 k hk), fun j hj => (al2_cell W o o' T j (by omega)).trans (ctl j hj), fun k hk e1 e2 => (al2_heap W o o' k (by omega)).trans (ho k e1 e2), fun B b1 b2 b3 => ?_⟩
  · rw [ct, World.cell?_setCell_other _ _ _ _ (by simp), World.cell?_setCell_same _ _ _ t0]
  · rw [ct, World.cell?_setCell_same (u := x1) _ _ _ (by rw [World.cell?_setCell_other _ _ _ _ (by simp)]; exact t1)]
  · have hb : Below B w W := by
      rcases hW with ⟨rfl, _⟩ | rfl
      · exact (((Below.refl _ _).setCell b2 _).setCell b2 _).setCell b1 _
      · exact ((((Below.refl _ _).setCell b2 _).setCell b2 _).setCell b1 _).setCell b1 _
    exact ((hb.alloc (by omega) _).alloc (by simp; omega) _).drew

set_option maxRecDepth 100000 in
set_option maxHeartbeats 800000 in
theorem push_room (S T n cap : Nat) (cp : Option Addr) (sig refs : Int) (x0 x1 : Value) (w : World)
    (hn : n + 1 ≤ cap) 
    (h0 : w.cell? ⟨S, 0, none⟩ = some (.slice (some ⟨T, 0, none⟩) n cap)) (h1 : w.cell? ⟨S, 1, none⟩ = some (.int .i64 refs)) (f : ∀ k, w.frozen? ⟨S, k, none⟩ = false)
    (t0 : w.cell? ⟨T, n * 2, none⟩ = some x0) (t1 : w.cell? ⟨T, n * 2 + 1, none⟩ = some x1) (fT : ∀ k, w.frozen? ⟨T, k, none⟩ = false) (hST : S ≠ T) (hTS : T ≠ S) (hs : S < w.heap.size) (ht : T < w.heap.size) :
    Calls Yba.prog 5 #[.pointer (some ⟨S, 0, none⟩), .agg #[.pointer cp, .int .i64 sig]] w fun e w' => e = .returned (.tuple #[]) ∧ Pushed S T n cp sig refs w w' := by
  by_cases hneg : sig < 0
  · go_enter Yba.func5, Yba.ntmps5
    go_wp2
    go_region
    all_goals go_wp2
    all_goals
      go_end0
      exact ⟨rfl, pushed_room h0 h1 t0 t1 hST hTS hs ht _ (by rw [if_pos hneg]) _ (.inr rfl)⟩
  · have HN : Hid _ := hneg
    go_enter Yba.func5, Yba.ntmps5
    go_wp2
    go_region
    all_goals go_wp2
    all_goals
      go_end0
      exact ⟨rfl, pushed_room h0 h1 t0 t1 hST hTS hs ht _ (by rw [if_neg HN.out]) _ (.inl ⟨rfl, rfl⟩)⟩

theorem new_cells (w : World) (o : Obj) (a b : Value) (j : Nat) (u : Value) (hj : [a, b][j]? = some u) : ((w.alloc o).alloc (.cells #[a, b] 29)).drew.cell? ((⟨w.heap.size + 1, 0, none⟩ : Addr).add j) = some u := by
  have hb := (two_new w o (.cells #[a, b] 29)).2
  rcases j with _ | _ | j
  · simp at hj; subst hj; exact cell_of hb rfl
  · simp at hj; subst hj; exact cell_of hb rfl
  · simp at hj
theorem old_cells (w : World) (o o' : Obj) (T : Nat) (ht : T < w.heap.size) (olds : List Value) (h : ∀ j u, olds[j]? = some u → w.cell? ⟨T, j, none⟩ = some u) (b : Addr) (hb : some (⟨T, 0, none⟩ : Addr) = some b) (j : Nat) (u : Value) (hj : olds[j]? = some u) :
    ((w.alloc o).alloc o').drew.cell? (b.add j) = some u := by
  simp only [Option.some.injEq] at hb
  subst hb
  have e : (⟨T, 0, none⟩ : Addr).add j = ⟨T, j, none⟩ := by
    by_cases e : j = 0
    · subst e; rfl
    · simp [Addr.add, e]
  rw [e]
  refine (World.cell?_of_block (w := w) ?_).trans (h j u hj)
  show ((w.alloc o).alloc o').heap[T]? = _
  rw [Below.heap_alloc _ _ _ (by simp; omega), Below.heap_alloc _ _ _ ht]
theorem s_cells {w w' : World} {o o' : Obj} (hg : ((w.alloc o).alloc o').drew.grownBy w' .none) (k : Nat) (hk : k < w.heap.size) : w'.heap[k]? = w.heap[k]? := by
  rw [hg.block k (by simp; omega) (by simp)]
  show ((w.alloc o).alloc o').heap[k]? = _
  rw [Below.heap_alloc _ _ _ (by simp; omega), Below.heap_alloc _ _ _ hk]
theorem box_cells {w w' : World} {a b : Value} {o' : Obj} (hg : ((w.alloc (.cells #[a, b] 29)).alloc o').drew.grownBy w' .none) : w'.heap[w.heap.size]? = some (.cells #[a, b] 29 (0, 0)) := by
  rw [hg.block _ (by simp; omega) (by simp)]
  exact (two_new w _ _).1
theorem own_form {w : World} {base n : Nat} {e : TypeId} {v : Value} {xs : List Value} (h : w.ownsRow base e 2 v (n + 1) xs) : ∃ g cap, v = .slice (some ⟨g, 0, none⟩) (n + 1) cap := by
  rcases h.2 with ⟨_, h0⟩ | ⟨g, cap, _, rfl, _⟩
  · omega
  · exact ⟨_, _, rfl⟩

theorem pushed_grow {S T n g cap' : Nat} {cp : Option Addr} {sig refs : Int} {olds : List Value} {w w' : World} {o o' : Obj}
    (h0 : w'.cell? ⟨S, 0, none⟩ = some (.slice (some ⟨T, 0, none⟩) n n)) (h1 : w'.cell? ⟨S, 1, none⟩ = some (.int .i64 refs))
    (hlo : olds.length = n * 2) (hold : ∀ j u, olds[j]? = some u → w.cell? ⟨T, j, none⟩ = some u) (hs : S < w.heap.size) (ht : T < w.heap.size) (hTS : T ≠ S)
    (hown : w'.ownsRow ((w.alloc o).alloc o').drew.heap.size 29 2 (.slice (some ⟨g, 0, none⟩) (n + 1) cap') (n + 1) (olds ++ [.pointer cp, .int .i64 sig]))
    (hg : ((w.alloc o).alloc o').drew.grownBy w' .none)
    (r : Int) (hr : r = if sig < 0 then wrap64 (refs + 1) else refs) (W : World)
    (hW : W = w'.setCell ⟨S, 0, none⟩ (.slice (some ⟨g, 0, none⟩) (n + 1) cap') ∧ r = refs ∨ W = (w'.setCell ⟨S, 0, none⟩ (.slice (some ⟨g, 0, none⟩) (n + 1) cap')).setCell ⟨S, 1, none⟩ (.int .i64 r)) :
    Pushed S T n cp sig refs w W := by
  have hk := fun k => s_cells hg k
  have hz : w.heap.size + 2 ≤ w'.heap.size := by have := hg.size; simpa using this
  have hzW : W.heap.size = w'.heap.size := by rcases hW with ⟨rfl, _⟩ | rfl <;> simp
  have ho : ∀ k, k ≠ S → W.heap[k]? = w'.heap[k]? := fun k e1 => by
    rcases hW with ⟨rfl, _⟩ | rfl
    · rw [Below.heap_setCell _ _ _ _ e1]
    · rw [Below.heap_setCell _ _ _ _ e1, Below.heap_setCell _ _ _ _ e1]
  have c0 : W.cell? ⟨S, 0, none⟩ = some (.slice (some ⟨g, 0, none⟩) (n + 1) cap') := by rcases hW with ⟨rfl, _⟩ | rfl <;> simp [go_sem, h0]
  have c1 : W.cell? ⟨S, 1, none⟩ = some (.int .i64 r) := by
    rcases hW with ⟨rfl, h⟩ | rfl
    · simp [go_sem, h1, h]
    · simp [go_sem, h1]
  have c2 : ∀ k, 2 ≤ k → W.cell? ⟨S, k, none⟩ = w'.cell? ⟨S, k, none⟩ := fun k hk => by
    have e0 : ¬ 0 = k := by omega
    have e1 : ¬ 1 = k := by omega
    rcases hW with ⟨rfl, _⟩ | rfl
    · rw [World.cell?_setCell_other _ _ _ _ (by simp [e0])]
    · rw [World.cell?_setCell_other _ _ _ _ (by simp [e1]), World.cell?_setCell_other _ _ _ _ (by simp [e0])]
  have hgrow : w.heap.size + 2 ≤ g ∧ ∃ cur, w'.heap[g]? = some (.cells cur 29 (0, 0)) ∧ cur.toList.take ((n + 1) * 2) = olds ++ [.pointer cp, .int .i64 sig] := by
    rcases hown.2 with ⟨h, _⟩ | ⟨g', cap2, cur, e, hbg, hgc, _, _, _, htk⟩
    · cases h
    · cases e
      exact ⟨by simpa using hbg, cur, hgc, htk⟩
  obtain ⟨g1, cur, hgc, htk⟩ := hgrow
  have hgW : W.heap[g]? = some (.cells cur 29 (0, 0)) := (ho g (by omega)).trans hgc
  have hcur : ∀ j, j < (n + 1) * 2 → cur[j]? = (olds ++ [.pointer cp, .int .i64 sig])[j]? := fun j hj => by
    have h3 := congrArg (fun l => l[j]?) htk
    simp only [List.getElem?_take, hj, if_true, Array.getElem?_toList] at h3
    exact h3
  refine ⟨⟨g, cap', c0, fun j v hj hv => ?_, ?_, ?_⟩, by rw [c1, hr], fun k h2 => (c2 k h2).trans (World.cell?_of_block (hk S hs)), fun j _ => World.cell?_of_block ((ho T hTS).trans (hk T ht)), fun k hkk e1 _ => (ho k e1).trans (hk k hkk), fun B b1 b2 b3 => ?_⟩
  · refine cell_of hgW ?_
    rw [hcur j (by omega), List.getElem?_append_left (by omega)]
    have hj' : j < olds.length := by omega
    have := hold j _ (List.getElem?_eq_getElem hj')
    rw [hv] at this
    rw [List.getElem?_eq_getElem hj']
    exact this.symm
  · refine cell_of hgW ?_
    rw [hcur _ (by omega), List.getElem?_append_right (by omega), hlo, Nat.sub_self]
    rfl
  · refine cell_of hgW ?_
    rw [hcur _ (by omega), List.getElem?_append_right (by omega), hlo, show n * 2 + 1 - n * 2 = 1 by omega]
    rfl
  · have hb : Below B w w' := ((((Below.refl B w).alloc b3 o).alloc (by simp; omega) o').drew).grown hg (by simp; omega) (by simp)
    rcases hW with ⟨rfl, _⟩ | rfl
    · exact hb.setCell b1 _
    · exact (hb.setCell b1 _).setCell b1 _

set_option maxRecDepth 100000 in
set_option maxHeartbeats 800000 in
theorem push_grow (S T n : Nat) (cp : Option Addr) (sig refs : Int) (olds : List Value) (w : World) (hn : n ≤ 2097152)
    (h0 : w.cell? ⟨S, 0, none⟩ = some (.slice (some ⟨T, 0, none⟩) n n)) (h1 : w.cell? ⟨S, 1, none⟩ = some (.int .i64 refs)) (f : ∀ k, w.frozen? ⟨S, k, none⟩ = false)
    (hlo : olds.length = n * 2) (hold : ∀ j u, olds[j]? = some u → w.cell? ⟨T, j, none⟩ = some u) (hs : S < w.heap.size) (ht : T < w.heap.size) (hTS : T ≠ S) :
    Calls Yba.prog 5 #[.pointer (some ⟨S, 0, none⟩), .agg #[.pointer cp, .int .i64 sig]] w fun e w' => e = .returned (.tuple #[]) ∧ Pushed S T n cp sig refs w w' := by
  obtain ⟨i0, hi, hz0, hz1, hz2⟩ := info_parts info29
  have hO : Hid _ := hold
  clear hold
  by_cases hneg : sig < 0
  · go_enter Yba.func5, Yba.ntmps5
    go_wp2
    go_region_law (refine step_append_grows rfl (.tmp 8) (.tmp 10) 24 rfl 29 i0 _ 2 16 Yba.underlying24 hi hz0 hz1 hz2 rfl (by decide) (some ⟨T, 0, none⟩) n n olds rfl (by simp) hlo (old_cells _ _ _ T ht olds hO.out) ⟨w.heap.size + 1, 0, none⟩ 1 1 [.pointer cp, .int .i64 sig] rfl rfl (new_cells _ _ _ _) (by simp [Value.oneCell']) (by omega) (by unfold maxLen; omega) (by omega) ?_; intro v' w' hown hgrow; obtain ⟨g, cap', rfl⟩ := own_form hown; have hS := s_cells hgrow S hs; have h0' := (World.cell?_of_block (a := ⟨S, 0, none⟩) hS).trans h0; have h1' := (World.cell?_of_block (a := ⟨S, 1, none⟩) hS).trans h1; have f0' := (World.frozen?_of_block (a := ⟨S, 0, none⟩) hS).trans (f 0); have f1' := (World.frozen?_of_block (a := ⟨S, 1, none⟩) hS).trans (f 1); clear hS; have hq := cell_of (i := 1) (box_cells hgrow) rfl)
    all_goals go_wp2
    all_goals
      go_end0
      exact ⟨rfl, pushed_grow h0' h1' hlo hO.out hs ht hTS hown hgrow _ (by rw [if_pos hneg]) _ (.inr rfl)⟩
  · have HN : Hid _ := hneg
    go_enter Yba.func5, Yba.ntmps5
    go_wp2
    go_region_law (refine step_append_grows rfl (.tmp 8) (.tmp 10) 24 rfl 29 i0 _ 2 16 Yba.underlying24 hi hz0 hz1 hz2 rfl (by decide) (some ⟨T, 0, none⟩) n n olds rfl (by simp) hlo (old_cells _ _ _ T ht olds hO.out) ⟨w.heap.size + 1, 0, none⟩ 1 1 [.pointer cp, .int .i64 sig] rfl rfl (new_cells _ _ _ _) (by simp [Value.oneCell']) (by omega) (by unfold maxLen; omega) (by omega) ?_; intro v' w' hown hgrow; obtain ⟨g, cap', rfl⟩ := own_form hown; have hS := s_cells hgrow S hs; have h0' := (World.cell?_of_block (a := ⟨S, 0, none⟩) hS).trans h0; have h1' := (World.cell?_of_block (a := ⟨S, 1, none⟩) hS).trans h1; have f0' := (World.frozen?_of_block (a := ⟨S, 0, none⟩) hS).trans (f 0); have f1' := (World.frozen?_of_block (a := ⟨S, 1, none⟩) hS).trans (f 1); clear hS; have hq := cell_of (i := 1) (box_cells hgrow) rfl)
    all_goals go_wp2
    all_goals
      go_end0
      exact ⟨rfl, pushed_grow h0' h1' hlo hO.out hs ht hTS hown hgrow _ (by rw [if_neg HN.out]) _ (.inl ⟨rfl, rfl⟩)⟩
end Go.Proofs.Ybulkdxzc
