/- send and the host's Send: by contract. -/
import Derived.Test.YbulkdxyaFmtOwners
namespace Go.Proofs.YbulkdxyaFmt
open Go.RowKit
set_option linter.unusedSimpArgs false
set_option linter.unusedVariables false

theorem inf109 : (Ybaf.prog.info? 109).map (fun i => (i.zero, i.size, i.bytes)) = some (some (.pointer none), 1, 8) := by kernel_rfl
/-- The host's two rows, of k entries. -/
structure HX (w : World) (B H k : Nat) (tos ms : List Value) : Prop where
  ex : ∃ tv mv, w.heap[H]? = some (.cells #[tv, mv] 69 (0, 0)) ∧ w.ownsRow B 50 1 tv k tos ∧ w.ownsRow B 109 1 mv k ms
  le : H < B
theorem own_of_block {w w' : World} {B n : Nat} {e : TypeId} {sz : Nat} {v : Value} {xs : List Value} (h : w.ownsRow B e sz v n xs) (hk : ∀ g, v.ownBlock = some g → w'.heap[g]? = w.heap[g]?) : w'.ownsRow B e sz v n xs := by
  refine ⟨h.1, ?_⟩
  rcases h.2 with h0 | ⟨g, cap, cur, rfl, hb, hg, r⟩
  · exact .inl h0
  · exact .inr ⟨g, cap, cur, rfl, hb, (hk g rfl).trans hg, r⟩
theorem own_form {w : World} {B n : Nat} {e : TypeId} {sz : Nat} {v : Value} {xs : List Value} (h : w.ownsRow B e sz v n xs) : ∃ p cap, v = .slice p n cap := by
  rcases h.2 with ⟨rfl, rfl⟩ | ⟨T, cap, cur, rfl, _⟩
  · exact ⟨none, 0, rfl⟩
  · exact ⟨_, cap, rfl⟩
/-- Rows of different element types lie apart. -/
theorem own_apart {w : World} {B n m : Nat} {e e' : TypeId} {sz sz' : Nat} {v v' : Value} {xs ys : List Value} (h : w.ownsRow B e sz v n xs) (h' : w.ownsRow B e' sz' v' m ys) (hne : e ≠ e') {g : Nat} (hg : v.ownBlock = some g) : v'.ownBlock ≠ some g := by
  intro hg'
  rcases h.2 with ⟨rfl, _⟩ | ⟨a, cap, cur, rfl, _, q, _⟩
  · simp [Value.ownBlock] at hg
  · rcases h'.2 with ⟨rfl, _⟩ | ⟨a', cap', cur', rfl, _, q', _⟩
    · simp [Value.ownBlock] at hg'
    · simp [Value.ownBlock] at hg hg'
      subst hg hg'
      rw [q] at q'
      cases q'
      exact hne rfl
theorem HX.keep {w w' : World} {B H k : Nat} {tos ms : List Value} (h : HX w B H k tos ms) (hb : Below w.heap.size w w') : HX w' B H k tos ms := by
  obtain ⟨tv, mv, h1, h2, h3⟩ := h.ex
  exact ⟨⟨tv, mv, (hb.block H (Array.getElem?_eq_some_iff.1 h1).1).trans h1, own_of_block h2 (fun g hg => hb.block g (h2.lt g hg).2), own_of_block h3 (fun g hg => hb.block g (h3.lt g hg).2)⟩, h.le⟩

theorem grown_at {w w2 : World} {B H n : Nat} {e t : TypeId} {v : Value} {xs : List Value} {cs : Array Value} {o : Obj} (h1 : w.heap[H]? = some (.cells cs t (0, 0))) (h2 : w.ownsRow B e 1 v n xs) (hH : H < B) (hg : (w.alloc o).grownBy w2 v.ownBlock) : w2.heap[H]? = some (.cells cs t (0, 0)) := by
  have hlt : H < w.heap.size := (Array.getElem?_eq_some_iff.1 h1).1
  refine (hg.block H (by simp; omega) (fun q => ?_)).trans ((Below.heap_alloc _ _ _ hlt).trans h1)
  have := (h2.lt H q.symm).1
  omega
set_option maxRecDepth 100000 in
set_option maxHeartbeats 4000000 in
theorem Send_calls (B H k mb : Nat) (dst : Int) (tos ms : List Value) (w : World) (h : HX w B H k tos ms) (hB : B ≤ w.heap.size) (hk : k ≤ 1000000) :
    Calls Ybaf.prog 149 #[.pointer (some ⟨H, 0, none⟩), .int .u64 dst, .pointer (some ⟨mb, 0, none⟩)] w fun e w' => e = .returned (.tuple #[]) ∧ HX w' B H (k + 1) (tos ++ [.int .u64 dst]) (ms ++ [.pointer (some ⟨mb, 0, none⟩)]) ∧ w.heap.size ≤ w'.heap.size ∧ (∀ j, j < B → j ≠ H → w'.heap[j]? = w.heap[j]?) ∧ (w'.os = w.os ∧ w'.tape = w.tape ∧ w'.output = w.output) ∧ (∀ j, B ≤ j → j < w.heap.size → (∀ cs t fr, w.heap[j]? = some (.cells cs t fr) → t ≠ 50 ∧ t ≠ 109) → w'.heap[j]? = w.heap[j]?) := by
  obtain ⟨i50, hi50, hz0, hz1, hz2⟩ := info_parts inf50'
  obtain ⟨i109, hi109, hy0, hy1, hy2⟩ := info_parts inf109
  obtain ⟨tv, mv, h1, h2, h3⟩ := h.ex
  have HH : Hid (w.heap[H]? = some (.cells #[tv, mv] 69 (0, 0)) ∧ w.ownsRow B 50 1 tv k tos ∧ w.ownsRow B 109 1 mv k ms ∧ H < B) := ⟨h1, h2, h3, h.le⟩
  have hlH : H < w.heap.size := (Array.getElem?_eq_some_iff.1 h1).1
  have c0 : w.cell? ⟨H, 0, none⟩ = some tv := cell_of h1 rfl
  obtain ⟨pt, ct, rfl⟩ := own_form h2
  obtain ⟨pm, cm, rfl⟩ := own_form h3
  clear h1 h2 h3 h
  go_enter Ybaf.func149, Ybaf.ntmps149
  go_upto_region 1 with (at_builtin; refine wpList_append_lies _ rfl (.tmp 10) (.tmp 12) 43 rfl B 50 i50 (.int .u64 0) 1 8 Ybaf.underlying43 hi50 hz0 hz1 hz2 rfl (by decide) (.slice pt k ct) k tos rfl (HH.out.2.1.alloc _) ⟨w.heap.size, 0, none⟩ 1 1 [.int .u64 dst] rfl rfl (World.news_of_block (cs := #[.int .u64 dst]) (heap_alloc_new _ _)) (by simp [Value.oneCell']) (by omega) (by unfold maxLen; omega) (by omega) (by simp; omega) _ rfl ?_; intro g cap w2 hown hgrow hat hltg; have HG : Hid (w2.ownsRow B 50 1 (.slice (some ⟨g, 0, none⟩) (k + 1) cap) (k + 1) (tos ++ [.int .u64 dst]) ∧ (w.alloc (.cells #[.int .u64 dst] 50)).grownBy w2 (Value.slice pt k ct).ownBlock) := ⟨hown, hgrow⟩; have hH2 := grown_at HH.out.1 HH.out.2.1 HH.out.2.2.2 hgrow; have k0 : w2.cell? ⟨H, 0, none⟩ = some (.slice pt k ct) := cell_of hH2 rfl; have k1 : w2.cell? ⟨H, 1, none⟩ = some (.slice pm k cm) := cell_of hH2 rfl; have f0 : w2.frozen? ⟨H, 0, none⟩ = false := frozen_of hH2; have f1 : w2.frozen? ⟨H, 1, none⟩ = false := frozen_of hH2; have HH2 : Hid (_ = _) := hH2; clear hown hgrow hat hltg hH2)
  obtain ⟨w3, HW3⟩ : ∃ W : World, Hid (W = w2.setCell ⟨H, 0, none⟩ (.slice (some ⟨g, 0, none⟩) (k + 1) cap)) := ⟨_, rfl⟩
  have hlt2 : w.heap.size + 1 ≤ w2.heap.size := by have := HG.out.2.size; simpa using this
  have hH3 : w3.heap[H]? = some (.cells #[.slice (some ⟨g, 0, none⟩) (k + 1) cap, .slice pm k cm] 69 (0, 0)) := by
    rw [HW3.out]
    simpa using heap_setCell_same w2 H 0 _ 69 (.slice (some ⟨g, 0, none⟩) (k + 1) cap) HH2.out
  have hoth3 : ∀ j, j ≠ H → w3.heap[j]? = w2.heap[j]? := fun j hj => by rw [HW3.out]; exact Below.heap_setCell _ _ _ _ hj
  have hm3 : w3.ownsRow B 109 1 (.slice pm k cm) k ms := by
    refine own_of_block HH.out.2.2.1 (fun j hj => ?_)
    have hj1 := HH.out.2.2.1.lt j hj
    rw [hoth3 j (by have := HH.out.2.2.2; omega)]
    refine (HG.out.2.block j (by simp; omega) (fun q => ?_)).trans (Below.heap_alloc _ _ _ hj1.2)
    exact own_apart HH.out.2.1 HH.out.2.2.1 (by decide) q.symm hj
  have ht3 : w3.ownsRow B 50 1 (.slice (some ⟨g, 0, none⟩) (k + 1) cap) (k + 1) (tos ++ [.int .u64 dst]) := own_of_block HG.out.1 (fun j hj => hoth3 j (by have := (HG.out.1.lt j hj).1; have := HH.out.2.2.2; omega))
  have hs3 : w3.heap.size = w2.heap.size := by rw [HW3.out, World.size_setCell]
  rw [← HW3.out]
  have k1 : w3.cell? ⟨H, 1, none⟩ = some (.slice pm k cm) := cell_of hH3 rfl
  have hl3 : H < w3.heap.size := by omega
  have hle3 : w.heap.size + 1 ≤ w3.heap.size := by omega
  have H3 : Hid (w3.heap[H]? = some (.cells #[.slice (some ⟨g, 0, none⟩) (k + 1) cap, .slice pm k cm] 69 (0, 0)) ∧ w3.ownsRow B 109 1 (.slice pm k cm) k ms ∧ w3.ownsRow B 50 1 (.slice (some ⟨g, 0, none⟩) (k + 1) cap) (k + 1) (tos ++ [.int .u64 dst]) ∧ (∀ j, j ≠ H → w3.heap[j]? = w2.heap[j]?) ∧ w3.heap.size = w2.heap.size ∧ (w3.os = w2.os ∧ w3.tape = w2.tape ∧ w3.output = w2.output)) := ⟨hH3, hm3, ht3, hoth3, hs3, by rw [HW3.out]; exact ⟨((Below.refl 0 w2).setCell (p := ⟨H, 0, none⟩) (Nat.zero_le _) _).os, ((Below.refl 0 w2).setCell (p := ⟨H, 0, none⟩) (Nat.zero_le _) _).tape, ((Below.refl 0 w2).setCell (p := ⟨H, 0, none⟩) (Nat.zero_le _) _).output⟩⟩
  clear hH3 hm3 ht3 hoth3 k0 f0 f1 c0 HW3 hs3
  go_wp2_with (at_builtin; go_must (refine wpList_append_lies _ rfl (.tmp 20) (.tmp 22) 67 rfl B 109 i109 (.pointer none) 1 8 Ybaf.underlying67 hi109 hy0 hy1 hy2 rfl (by decide) (.slice pm k cm) k ms rfl (H3.out.2.1.alloc _) ⟨w3.heap.size, 0, none⟩ 1 1 [.pointer (some ⟨mb, 0, none⟩)] rfl rfl (World.news_of_block (cs := #[.pointer (some ⟨mb, 0, none⟩)]) (heap_alloc_new _ _)) (by simp [Value.oneCell']) (by omega) (by unfold maxLen; omega) (by omega) (by simp; omega) _ rfl ?_); intro g2 cap2 w4 hown hgrow hat hltg; have HG2 : Hid (w4.ownsRow B 109 1 (.slice (some ⟨g2, 0, none⟩) (k + 1) cap2) (k + 1) (ms ++ [.pointer (some ⟨mb, 0, none⟩)]) ∧ (w3.alloc (.cells #[.pointer (some ⟨mb, 0, none⟩)] 109)).grownBy w4 (Value.slice pm k cm).ownBlock) := ⟨hown, hgrow⟩; have hH4 := grown_at H3.out.1 H3.out.2.1 HH.out.2.2.2 hgrow; have k1' : w4.cell? ⟨H, 1, none⟩ = some (.slice pm k cm) := cell_of hH4 rfl; have f1' : w4.frozen? ⟨H, 1, none⟩ = false := frozen_of hH4; have HH4 : Hid (w4.heap[H]? = some (.cells #[.slice (some ⟨g, 0, none⟩) (k + 1) cap, .slice pm k cm] 69 (0, 0))) := hH4; clear hown hgrow hat hltg hH4)
  go_end0
  obtain ⟨w5, hw5⟩ : ∃ W : World, W = w4.setCell ⟨H, 1, none⟩ (.slice (some ⟨g2, 0, none⟩) (k + 1) cap2) := ⟨_, rfl⟩
  rw [← hw5]
  have hH5 : w5.heap[H]? = some (.cells #[.slice (some ⟨g, 0, none⟩) (k + 1) cap, .slice (some ⟨g2, 0, none⟩) (k + 1) cap2] 69 (0, 0)) := by
    rw [hw5]
    simpa using heap_setCell_same w4 H 1 _ 69 (.slice (some ⟨g2, 0, none⟩) (k + 1) cap2) HH4.out
  have hoth5 : ∀ j, j ≠ H → w5.heap[j]? = w4.heap[j]? := fun j hj => by rw [hw5]; exact Below.heap_setCell _ _ _ _ hj
  have hlt4 : w3.heap.size + 1 ≤ w4.heap.size := by have := HG2.out.2.size; simpa using this
  have hHB := HH.out.2.2.2
  have hs5 : w5.heap.size = w4.heap.size := by rw [hw5, World.size_setCell]
  have ht5 : w5.ownsRow B 50 1 (.slice (some ⟨g, 0, none⟩) (k + 1) cap) (k + 1) (tos ++ [.int .u64 dst]) := by
    refine own_of_block H3.out.2.2.1 (fun j hj => ?_)
    have hj1 := H3.out.2.2.1.lt j hj
    rw [hoth5 j (by omega)]
    refine (HG2.out.2.block j (by simp; omega) (fun q => ?_)).trans (Below.heap_alloc _ _ _ hj1.2)
    exact own_apart H3.out.2.1 H3.out.2.2.1 (by decide) q.symm hj
  have hm5 : w5.ownsRow B 109 1 (.slice (some ⟨g2, 0, none⟩) (k + 1) cap2) (k + 1) (ms ++ [.pointer (some ⟨mb, 0, none⟩)]) := own_of_block HG2.out.1 (fun j hj => hoth5 j (by have := (HG2.out.1.lt j hj).1; omega))
  refine ⟨rfl, ⟨⟨_, _, hH5, ht5, hm5⟩, hHB⟩, by omega, fun j hj hne => ?_, ?_, fun j hj hlt hty => ?_⟩
  · rw [hoth5 j hne]
    refine (HG2.out.2.block j (by simp; omega) (fun q => ?_)).trans ((Below.heap_alloc _ _ _ (by omega)).trans ((H3.out.2.2.2.1 j hne).trans ((HG.out.2.block j (by simp; omega) (fun q => ?_)).trans (Below.heap_alloc _ _ _ (by omega)))))
    · have := (H3.out.2.1.lt j q.symm).1; omega
    · have := (HH.out.2.1.lt j q.symm).1; omega
  · have e5 := ((Below.refl 0 w4).setCell (p := ⟨H, 1, none⟩) (Nat.zero_le _) (.slice (some ⟨g2, 0, none⟩) (k + 1) cap2))
    rw [← hw5] at e5
    obtain ⟨q1, q2, q3⟩ := H3.out.2.2.2.2.2
    have r1 := HG2.out.2.os
    have r2 := HG2.out.2.tape
    have r3 := HG2.out.2.output
    have s1 := HG.out.2.os
    have s2 := HG.out.2.tape
    have s3 := HG.out.2.output
    exact ⟨e5.os.trans (r1.trans (q1.trans s1)), e5.tape.trans (r2.trans (q2.trans s2)), e5.output.trans (r3.trans (q3.trans s3))⟩
  · have hne : j ≠ H := by omega
    have n1 : (Value.slice pt k ct).ownBlock ≠ some j := fun q => by
      rcases HH.out.2.1.2 with ⟨e0, _⟩ | ⟨a, cap', cur, e0, _, hq, _⟩
      · rw [e0] at q; simp [Value.ownBlock] at q
      · rw [e0] at q; simp [Value.ownBlock] at q; subst q; first | exact (hty _ _ _ hq).1 rfl | exact (hty _ _ _ _ hq).1 rfl
    have n2 : (Value.slice pm k cm).ownBlock ≠ some j := fun q => by
      rcases HH.out.2.2.1.2 with ⟨e0, _⟩ | ⟨a, cap', cur, e0, _, hq, _⟩
      · rw [e0] at q; simp [Value.ownBlock] at q
      · rw [e0] at q; simp [Value.ownBlock] at q; subst q; first | exact (hty _ _ _ hq).2 rfl | exact (hty _ _ _ _ hq).2 rfl
    rw [hoth5 j hne]
    exact (HG2.out.2.block j (by simp; omega) (fun q => n2 q.symm)).trans ((Below.heap_alloc _ _ _ (by omega)).trans ((H3.out.2.2.2.1 j hne).trans ((HG.out.2.block j (by simp; omega) (fun q => n1 q.symm)).trans (Below.heap_alloc _ _ _ hlt))))
end Go.Proofs.YbulkdxyaFmt
