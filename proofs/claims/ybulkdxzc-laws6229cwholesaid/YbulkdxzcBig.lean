/- math/big.NewInt and (*Int).Int64 by contract. -/
import Derived.Test.YbulkdxzcRows
import Derived.WalkKit
import Derived.WalkSpells
import Derived.WalkLawsBesides
import Derived.OpenShut
import Derived.Deep.OwnRows
namespace Go.Proofs.Ybulkdxzc
open Go.RowKit
set_option linter.unusedSimpArgs false
set_option linter.unusedVariables false

theorem u64w (x : Int) : IntKind.u64.wrap x = x % 18446744073709551616 := by simp [IntKind.wrap, IntKind.bits, IntKind.signed]
theorem w_pos (x : Int) (h0 : 0 < x) (h1 : x ≤ 9223372036854775807) : wrap64 x = x := by unfold wrap64; omega
theorem w_neg (x : Int) (h0 : x < 0) (h1 : -9223372036854775808 ≤ x) : wrap64 (-wrap64 (IntKind.u64.wrap (-IntKind.u64.wrap x))) = x := by
  rw [u64w, u64w]; unfold wrap64; omega
theorem w_bd (x : Int) : 0 ≤ IntKind.u64.wrap x ∧ IntKind.u64.wrap x ≤ 18446744073709551615 := by rw [u64w]; omega

/-- Block b of W holds a big integer of value x; its blocks lie from lo on and below hi. -/
def Big (W : World) (lo hi b : Nat) (x : Int) : Prop :=
  lo ≤ b ∧ b < hi ∧ ∃ (neg : Bool) (v : Value), W.heap[b]? = some (.cells #[.bool neg, v] 45 (0, 0)) ∧
    ((v = .slice .none 0 0 ∧ neg = false ∧ x = 0) ∨
      ∃ (g : Nat) (u : Int), lo ≤ g ∧ g < hi ∧ v = .slice (some ⟨g, 0, .none⟩) 1 1 ∧ W.heap[g]? = some (.cells #[.int .u64 u] 42 (0, 0)) ∧ 0 ≤ u ∧ u ≤ 18446744073709551615 ∧ x = if neg then wrap64 (-wrap64 u) else wrap64 u)

theorem Big.keep {W W' : World} {lo hi b : Nat} {x : Int} (h : Big W lo hi b x) (ho : ∀ k, lo ≤ k → k < hi → W'.heap[k]? = W.heap[k]?) : Big W' lo hi b x := by
  obtain ⟨h1, h2, neg, v, hb, hv⟩ := h
  refine ⟨h1, h2, neg, v, (ho b h1 h2).trans hb, ?_⟩
  rcases hv with hv | ⟨g, u, g1, g2, e, hg, r⟩
  · exact .inl hv
  · exact .inr ⟨g, u, g1, g2, e, (ho g g1 g2).trans hg, r⟩
theorem Big.wide {W : World} {lo hi hi' b : Nat} {x : Int} (h : Big W lo hi b x) (hh : hi ≤ hi') : Big W lo hi' b x := by
  obtain ⟨h1, h2, neg, v, hb, hv⟩ := h
  refine ⟨h1, by omega, neg, v, hb, ?_⟩
  rcases hv with hv | ⟨g, u, g1, g2, r⟩
  · exact .inl hv
  · exact .inr ⟨g, u, g1, by omega, r⟩
theorem Big.low {W : World} {lo lo' hi b : Nat} {x : Int} (h : Big W lo hi b x) (hh : lo' ≤ lo) : Big W lo' hi b x := by
  obtain ⟨h1, h2, neg, v, hb, hv⟩ := h
  refine ⟨by omega, h2, neg, v, hb, ?_⟩
  rcases hv with hv | ⟨g, u, g1, g2, r⟩
  · exact .inl hv
  · exact .inr ⟨g, u, by omega, g2, r⟩

theorem cell_of {w : World} {b i : Nat} {c : Array Value} {t : TypeId} {v : Value} (hb : w.heap[b]? = some (.cells c t (0, 0))) (hc : c[i]? = some v) : w.cell? ⟨b, i, .none⟩ = some v := by
  simp [World.cell?, hb, hc]
theorem frozen_of {w : World} {b : Nat} {c : Array Value} {t : TypeId} (hb : w.heap[b]? = some (.cells c t (0, 0))) (i : Nat) : w.frozen? ⟨b, i, .none⟩ = false := by
  simp [World.frozen?, hb]
theorem two_new (w : World) (o1 o2 : Obj) : ((w.alloc o1).alloc o2).heap[w.heap.size]? = some o1 ∧ ((w.alloc o1).alloc o2).heap[w.heap.size + 1]? = some o2 := by
  refine ⟨?_, ?_⟩
  · rw [Below.heap_alloc _ _ _ (by simp)]; exact heap_alloc_new _ _
  · have := heap_alloc_new (w.alloc o1) o2
    rwa [World.size_alloc] at this

set_option maxRecDepth 100000 in
set_option maxHeartbeats 800000 in
theorem new_pos (x : Int) (w : World) (h0 : 0 < x) (h1 : x ≤ 9223372036854775807) :
    Calls Yba.prog 4 #[.int .i64 x] w fun e w' => e = .returned (.pointer (some ⟨w.heap.size + 1, 0, none⟩)) ∧ w' = (w.alloc (.cells #[.int .u64 x] 42)).alloc (.cells #[.bool (decide (x < 0)), .slice (some ⟨w.heap.size, 0, none⟩) 1 1] 45) := by
  go_enter Yba.func4, Yba.ntmps4
  go_wp2
  go_ret
  exact ⟨rfl, rfl⟩

set_option maxRecDepth 100000 in
set_option maxHeartbeats 800000 in
theorem new_neg (x : Int) (w : World) (h0 : x < 0) (h1 : -9223372036854775808 ≤ x) :
    Calls Yba.prog 4 #[.int .i64 x] w fun e w' => e = .returned (.pointer (some ⟨w.heap.size + 1, 0, none⟩)) ∧ w' = (w.alloc (.cells #[.int .u64 (IntKind.u64.wrap (-IntKind.u64.wrap x))] 42)).alloc (.cells #[.bool true, .slice (some ⟨w.heap.size, 0, none⟩) 1 1] 45) := by
  go_enter Yba.func4, Yba.ntmps4
  go_wp2
  go_ret
  exact ⟨rfl, rfl⟩

set_option maxRecDepth 100000 in
set_option maxHeartbeats 800000 in
theorem new_zero (w : World) :
    Calls Yba.prog 4 #[.int .i64 0] w fun e w' => e = .returned (.pointer (some ⟨w.heap.size, 0, none⟩)) ∧ w' = w.alloc (.cells #[.bool false, .slice none 0 0] 45) := by
  go_enter Yba.func4, Yba.ntmps4
  go_wp2
  go_ret
  exact ⟨rfl, rfl⟩

/-- NewInt: a new big integer of that value, in new memory. -/
theorem newInt (x : Int) (w : World) (h0 : -9223372036854775808 ≤ x) (h1 : x ≤ 9223372036854775807) :
    Calls Yba.prog 4 #[.int .i64 x] w fun e w' => ∃ b, e = .returned (.pointer (some ⟨b, 0, none⟩)) ∧ Big w' w.heap.size w'.heap.size b x ∧ Below w.heap.size w w' := by
  rcases Int.lt_trichotomy x 0 with h | h | h
  · refine (new_neg x w h h0).mono ?_
    rintro e w' ⟨rfl, rfl⟩
    obtain ⟨e1, e2⟩ := two_new w (.cells #[.int .u64 (IntKind.u64.wrap (-IntKind.u64.wrap x))] 42) (.cells #[.bool true, .slice (some ⟨w.heap.size, 0, none⟩) 1 1] 45)
    refine ⟨_, rfl, ⟨by omega, by simp, true, _, e2, .inr ⟨w.heap.size, _, Nat.le_refl _, by simp; omega, rfl, e1, (w_bd _).1, (w_bd _).2, ?_⟩⟩, ((Below.refl _ _).alloc (Nat.le_refl _) _).alloc (by simp) _⟩
    simp [w_neg x h h0]
  · subst h
    refine (new_zero w).mono ?_
    rintro e w' ⟨rfl, rfl⟩
    exact ⟨_, rfl, ⟨Nat.le_refl _, by simp, false, _, heap_alloc_new _ _, .inl ⟨rfl, rfl, rfl⟩⟩, (Below.refl _ _).alloc (Nat.le_refl _) _⟩
  · refine (new_pos x w h h1).mono ?_
    rintro e w' ⟨rfl, rfl⟩
    obtain ⟨e1, e2⟩ := two_new w (.cells #[.int .u64 x] 42) (.cells #[.bool (decide (x < 0)), .slice (some ⟨w.heap.size, 0, none⟩) 1 1] 45)
    refine ⟨_, rfl, ⟨by omega, by simp, _, _, e2, .inr ⟨w.heap.size, x, Nat.le_refl _, by simp; omega, rfl, e1, by omega, by omega, ?_⟩⟩, ((Below.refl _ _).alloc (Nat.le_refl _) _).alloc (by simp) _⟩
    have : ¬ x < 0 := by omega
    simp [this, w_pos x h h1]

set_option maxRecDepth 100000 in
set_option maxHeartbeats 800000 in
theorem int64_one (b g : Nat) (neg : Bool) (u : Int) (w : World) (h0 : w.cell? ⟨b, 0, none⟩ = some (.bool neg)) (h1 : w.cell? ⟨b, 1, none⟩ = some (.slice (some ⟨g, 0, none⟩) 1 1)) (h2 : w.cell? ⟨g, 0, none⟩ = some (.int .u64 u)) (_hu : 0 ≤ u ∧ u ≤ 18446744073709551615) :
    Calls Yba.prog 6 #[.pointer (some ⟨b, 0, none⟩)] w fun e w' => e = .returned (.int .i64 (if neg then wrap64 (-wrap64 u) else wrap64 u)) ∧ w = w' := by
  cases neg
  all_goals
    go_enter Yba.func6, Yba.ntmps6
    go_wp2
    go_ret
    exact ⟨rfl, rfl⟩
set_option maxRecDepth 100000 in
set_option maxHeartbeats 800000 in
theorem int64_zero (b : Nat) (w : World) (h0 : w.cell? ⟨b, 0, none⟩ = some (.bool false)) (h1 : w.cell? ⟨b, 1, none⟩ = some (.slice none 0 0)) :
    Calls Yba.prog 6 #[.pointer (some ⟨b, 0, none⟩)] w fun e w' => e = .returned (.int .i64 0) ∧ w = w' := by
  go_enter Yba.func6, Yba.ntmps6
  go_wp2
  go_ret
  exact ⟨rfl, rfl⟩

/-- Int64 gives the value back. -/
theorem int64 (lo hi b : Nat) (x : Int) (w : World) (h : Big w lo hi b x) :
    Calls Yba.prog 6 #[.pointer (some ⟨b, 0, none⟩)] w fun e w' => e = .returned (.int .i64 x) ∧ w = w' := by
  obtain ⟨_, _, neg, v, hb, hv⟩ := h
  rcases hv with ⟨rfl, rfl, rfl⟩ | ⟨g, u, _, _, rfl, hg, u0, u1, rfl⟩
  · exact int64_zero b w (cell_of hb rfl) (cell_of hb rfl)
  · exact int64_one b g neg u w (cell_of hb rfl) (cell_of hb rfl) (cell_of hg rfl) ⟨u0, u1⟩
end Go.Proofs.Ybulkdxzc
