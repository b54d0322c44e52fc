/- The row of nodes grows: the plain side. -/
import Derived.Test.YbulkdycwFmtPush
import Derived.Deep.DeepAppendWide
namespace Go.Proofs.YbulkdycwFmt
open Go.RowKit
set_option linter.unusedSimpArgs false
set_option linter.unusedVariables false

theorem zero_at (n k : Nat) (hk : k < n) : (Builtin.zeroCells z19 n)[k * 19 + 16]? = some (.slice none 0 0) := by
  have hs : (Builtin.zeroCells z19 n).size = n * 19 := by rw [size_zeroCells]; rfl
  have hlt : k * 19 + 16 < n * 19 := by omega
  unfold Builtin.zeroCells
  have he : (k * 19 + 16) % 19 = 16 := by omega
  have hsz : (z19 : Array Value).size = 19 := rfl
  simp [hlt, hsz, he]
theorem z19_16 : (z19 : Array Value)[16]? = some (.slice none 0 0) := rfl

theorem rn_grow {w w' : World} {B0 tb Tb C : Nat} {cur : Array Value} {T : Nat} {dv : Nat → Int} {ps : List Nat} (h : RN w B0 tb Tb C cur T dv ps) (hC : ps.length = C) (hb : Below w.heap.size w w') (htb : tb < w.heap.size) (hB0 : B0 ≤ w.heap.size) (C' : Nat) (hC' : C + 1 ≤ C') (hm : C' ≤ maxLen) :
    RN (w'.alloc (.cells (cur ++ z19 ++ Builtin.zeroCells z19 (C' - (C + 1))) 34)) B0 tb w'.heap.size C' (cur ++ z19 ++ Builtin.zeroCells z19 (C' - (C + 1))) T dv ps := by
  have hs := h.size
  have hz : (Builtin.zeroCells z19 (C' - (C + 1))).size = (C' - (C + 1)) * 19 := by rw [size_zeroCells]; rfl
  have hz19 : (z19 : Array Value).size = 19 := rfl
  have hws := hb.size
  have hb' : Below w.heap.size w (w'.alloc (.cells (cur ++ z19 ++ Builtin.zeroCells z19 (C' - (C + 1))) 34)) := hb.alloc hws _
  have old : ∀ j i, j < C → i < 19 → (cur ++ z19 ++ Builtin.zeroCells z19 (C' - (C + 1)))[j * 19 + i]? = cur[j * 19 + i]? := fun j i hj hi => by
    have h1 : (j + 1) * 19 ≤ C * 19 := Nat.mul_le_mul_right _ hj
    rw [Array.getElem?_append_left (by simp [hz19]; omega), Array.getElem?_append_left (by omega)]
  have new : ∀ j, C ≤ j → j < C' → (cur ++ z19 ++ Builtin.zeroCells z19 (C' - (C + 1)))[j * 19 + 16]? = some (.slice none 0 0) := fun j hj hj' => by
    have h1 : C * 19 ≤ j * 19 := Nat.mul_le_mul_right _ hj
    by_cases hjC : j = C
    · subst hjC
      rw [Array.getElem?_append_left (by simp [hz19]; omega), Array.getElem?_append_right (by omega)]
      rw [show j * 19 + 16 - cur.size = 16 by omega]
      exact z19_16
    · have h2 : (C + 1) * 19 ≤ j * 19 := Nat.mul_le_mul_right _ (by omega)
      rw [Array.getElem?_append_right (by simp [hz19]; omega)]
      have e : j * 19 + 16 - (cur ++ z19).size = (j - (C + 1)) * 19 + 16 := by
        have h3 : (cur ++ z19).size = (C + 1) * 19 := by simp [hz19, hs]; omega
        have h4 : (j - (C + 1)) * 19 = j * 19 - (C + 1) * 19 := Nat.sub_mul _ _ _
        rw [h3, h4]; omega
      rw [e]
      exact zero_at _ _ (by omega)
  have keepU : ∀ j U g, j < C → cur[j * 19 + 16]? = some U → U.ownBlock = some g → (w'.alloc (.cells (cur ++ z19 ++ Builtin.zeroCells z19 (C' - (C + 1))) 34)).heap[g]? = w.heap[g]? := fun j U g hj hU hg => by
    obtain ⟨V, l, xs, h1, h2, _, _⟩ := h.und j hj
    obtain rfl := Option.some.inj (h1.symm.trans hU)
    exact hb'.block g (h2.lt g hg).2
  have hlt : ∀ j U g, j < C → cur[j * 19 + 16]? = some U → U.ownBlock = some g → g < w.heap.size := fun j U g hj hU hg => by
    obtain ⟨V, l, xs, h1, h2, _, _⟩ := h.und j hj
    obtain rfl := Option.some.inj (h1.symm.trans hU)
    exact (h2.lt g hg).2
  refine ⟨heap_alloc_new _ _, ?_, hm, by omega, by omega, by omega, fun j hj => ?_, ?_, fun j p hp => ?_⟩
  · have : (C' - (C + 1)) * 19 = C' * 19 - (C + 1) * 19 := Nat.sub_mul _ _ _
    have : (C + 1) * 19 ≤ C' * 19 := Nat.mul_le_mul_right _ hC'
    simp only [Array.size_append, hz, hz19, hs]
    omega
  · by_cases hjC : j < C
    · obtain ⟨U, l, xs, h1, h2, h3, h4⟩ := h.und j hjC
      refine ⟨U, l, xs, (old j 16 hjC (by omega)).trans h1, own_of_block h2 (fun g hg => keepU j U g hjC h1 hg), ?_, h4⟩
      intro e
      have := hlt j U _ hjC h1 e
      omega
    · exact ⟨_, 0, [], new j (by omega) hj, World.ownsRow_nil _ _ _ _, by simp [Value.ownBlock], by simp [Value.ownBlock]⟩
  · intro i j U V hi hj hij hU hV g hg
    by_cases hiC : i < C
    · rw [old i 16 hiC (by omega)] at hU
      by_cases hjC : j < C
      · rw [old j 16 hjC (by omega)] at hV
        exact h.apart i j U V hiC hjC hij hU hV g hg
      · rw [new j (by omega) hj] at hV
        cases hV
        simp [Value.ownBlock]
    · rw [new i (by omega) hi] at hU
      cases hU
      simp [Value.ownBlock] at hg
  · have hj : j < C := by have := (List.getElem?_eq_some_iff.1 hp).1; omega
    have hn := h.nodes j p hp
    obtain ⟨V, hv1, hv2⟩ := hn.und
    obtain ⟨a, c, hd1, hd2, hd3⟩ := hn.data
    refine ⟨fun i hi => (old j i hj (by omega)).trans (hn.fields i hi), ⟨V, (old j 16 hj (by omega)).trans hv1, own_of_block hv2 (fun g hg => keepU j V g hj hv1 hg)⟩, (old j 17 hj (by omega)).trans hn.id, a, c, (old j 18 hj (by omega)).trans hd1, fun hpos => ?_, hd3⟩
    obtain ⟨ad, rfl, hbs⟩ := hd2 hpos
    exact ⟨ad, rfl, fun i hi => (hb'.cell (by rw [add_block]; have := hd3 ad rfl; omega)).trans (hbs i hi)⟩
end Go.Proofs.YbulkdycwFmt
