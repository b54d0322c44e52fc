/- choosePivot on a row, whatever it holds. -/
import Derived.Test.YbulkdxyaFmtSb
namespace Go.Proofs.YbulkdxyaFmt
open Go.RowKit
set_option linter.unusedSimpArgs false
set_option linter.unusedVariables false

/-- The row and the counter of swaps. -/
structure CK (w0 w : World) (blk off n sb s : Nat) : Prop where
  rk : RK w0 w blk off n
  at_ : w.heap[sb]? = some (.cells #[.int .i64 (s : Int)] 3 (0, 0))
  ge : w0.heap.size ≤ sb
  ne : sb ≠ blk
theorem CK.drewN {w0 w : World} {blk off n sb s : Nat} (h : CK w0 w blk off n sb s) (q : Nat) : CK w0 (w.drewN q) blk off n sb s := ⟨h.rk.drewN q, h.at_, h.ge, h.ne⟩
theorem CK.set {w0 w : World} {blk off n sb s : Nat} (h : CK w0 w blk off n sb s) : CK w0 (w.setCell ⟨sb, 0, none⟩ (.int .i64 ((s : Int) + 1))) blk off n sb (s + 1) := by
  have hs := (BStep.refl h.at_).set 0 (.int .i64 ((s : Int) + 1))
  simp at hs
  exact ⟨h.rk.step hs h.ne h.ge, hs.par, h.ge, h.ne⟩

set_option maxRecDepth 1000000 in
set_option maxHeartbeats 4000000 in
theorem order2_calls (blk off n cap a b sb s : Nat) (w0 w : World) (h : CK w0 w blk off n sb s) (ha : a < n) (hb : b < n) (hn : n ≤ 1000000) (hs : s ≤ 1000) :
    Calls Ybaf.prog 68 #[.slice (some ⟨blk, off, none⟩) n cap, .int .i64 a, .int .i64 b, .pointer (some ⟨sb, 0, none⟩)] w fun e w' => ∃ x y : Nat, e = .returned (.tuple #[.int .i64 x, .int .i64 y]) ∧ ((x = a ∧ y = b) ∨ (x = b ∧ y = a)) ∧ ∃ s', s' ≤ s + 1 ∧ CK w0 w' blk off n sb s' := by
  have H0 : Hid (CK w0 w blk off n sb s) := h
  have c0 : w.cell? ⟨sb, 0, none⟩ = some (.int .i64 (s : Int)) := cell_of h.at_ rfl
  have f0 : w.frozen? ⟨sb, 0, none⟩ = false := frozen_of h.at_
  obtain ⟨f, hcw, hfw⟩ := h.rk.fam
  clear h
  by_cases hl : f b < f a
  · go_enter Ybaf.func68, Ybaf.ntmps68
    go_upto_region 1 with fail
    go_quiet ((go_at_call 31; exact Calls.quiet_of_same (less_calls _ _ _)))
    have HK2 : Hid (CK w0 (World.drewN _ nq) blk off n sb s) := H0.out.drewN nq
    clear hcw hfw c0 f0 H0
    generalize World.drewN _ nq = wr2 at HK2 ⊢
    have c0 : wr2.cell? ⟨sb, 0, none⟩ = some (.int .i64 (s : Int)) := cell_of HK2.out.at_ rfl
    have f0 : wr2.frozen? ⟨sb, 0, none⟩ = false := frozen_of HK2.out.at_
    go_wp2_with fail
    go_ret2
    exact ⟨b, a, rfl, .inr ⟨rfl, rfl⟩, s + 1, by omega, HK2.out.set⟩
  · go_enter Ybaf.func68, Ybaf.ntmps68
    go_upto_region 1 with fail
    go_quiet ((go_at_call 31; exact Calls.quiet_of_same (less_calls _ _ _)))
    go_wp2_with fail
    go_ret2
    exact ⟨a, b, rfl, .inl ⟨rfl, rfl⟩, s, by omega, H0.out.drewN _⟩

set_option maxRecDepth 1000000 in
set_option maxHeartbeats 4000000 in
theorem median_calls (blk off n cap a b c sb s lo hi : Nat) (w0 w : World) (h : CK w0 w blk off n sb s) (ha : lo ≤ a ∧ a < hi) (hb : lo ≤ b ∧ b < hi) (hc : lo ≤ c ∧ c < hi) (hhi : hi ≤ n) (hn : n ≤ 1000000) (hs : s ≤ 900) :
    Calls Ybaf.prog 55 #[.slice (some ⟨blk, off, none⟩) n cap, .int .i64 a, .int .i64 b, .int .i64 c, .pointer (some ⟨sb, 0, none⟩)] w fun e w' => ∃ x : Nat, e = .returned (.int .i64 x) ∧ (lo ≤ x ∧ x < hi) ∧ ∃ s', s' ≤ s + 3 ∧ CK w0 w' blk off n sb s' := by
  have HC1 : Hid (Calls Ybaf.prog 68 _ w _) := order2_calls blk off n cap a b sb s w0 w h (by omega) (by omega) hn (by omega)
  clear h
  go_enter Ybaf.func55, Ybaf.ntmps55
  go_upto_region 2 with (go_at_call 68; refine HC1.out.mono ?_; rintro e' w1 ⟨x1, y1, rfl, hxy1, s1, hs1, h1⟩; have H1 : Hid (CK w0 w1 blk off n sb s1) := h1; clear h1)
  have HC2 : Hid (Calls Ybaf.prog 68 _ w1 _) := order2_calls blk off n cap y1 c sb s1 w0 w1 H1.out (by omega) (by omega) hn (by omega)
  go_upto_region 3 with (go_at_call 68; refine HC2.out.mono ?_; rintro e' w2 ⟨x2, y2, rfl, hxy2, s2, hs2, h2⟩; have H2 : Hid (CK w0 w2 blk off n sb s2) := h2; clear h2)
  have HC3 : Hid (Calls Ybaf.prog 68 _ w2 _) := order2_calls blk off n cap x1 x2 sb s2 w0 w2 H2.out (by omega) (by omega) hn (by omega)
  go_wp2_with (go_at_call 68; refine HC3.out.mono ?_; rintro e' w3 ⟨x3, y3, rfl, hxy3, s3, hs3, h3⟩; have H3 : Hid (CK w0 w3 blk off n sb s3) := h3; clear h3)
  go_ret
  exact ⟨y3, rfl, by omega, s3, by omega, H3.out⟩

set_option maxRecDepth 1000000 in
set_option maxHeartbeats 4000000 in
theorem adjacent_calls (blk off n cap a sb s lo hi : Nat) (w0 w : World) (h : CK w0 w blk off n sb s) (ha : lo ≤ a ∧ a + 2 < hi) (hhi : hi ≤ n) (hn : n ≤ 1000000) (hs : s ≤ 900) :
    Calls Ybaf.prog 54 #[.slice (some ⟨blk, off, none⟩) n cap, .int .i64 ((a : Int) + 1), .pointer (some ⟨sb, 0, none⟩)] w fun e w' => ∃ x : Nat, e = .returned (.int .i64 x) ∧ (lo ≤ x ∧ x < hi) ∧ ∃ s', s' ≤ s + 3 ∧ CK w0 w' blk off n sb s' := by
  have HC1 : Hid (Calls Ybaf.prog 55 #[.slice (some ⟨blk, off, none⟩) n cap, .int .i64 (a : Int), .int .i64 ((a : Int) + 1), .int .i64 ((a : Int) + 1 + 1), .pointer (some ⟨sb, 0, none⟩)] w _) := median_calls blk off n cap a (a + 1) (a + 1 + 1) sb s lo hi w0 w h (by omega) (by omega) (by omega) hhi hn hs
  clear h
  go_enter Ybaf.func54, Ybaf.ntmps54
  go_wp2_with (go_at_call 55; refine HC1.out.mono ?_; rintro e' w1 ⟨x1, rfl, hx1, s1, hs1, h1⟩; have H1 : Hid (CK w0 w1 blk off n sb s1) := h1; clear h1)
  go_ret
  exact ⟨x1, rfl, hx1, s1, hs1, H1.out⟩

set_option maxRecDepth 1000000 in
set_option maxHeartbeats 4000000 in
theorem pivot_calls (blk off n cap a b : Nat) (w0 w : World) (h : RK w0 w blk off n) (h8 : a + 8 ≤ b) (hb : b ≤ n) (hn : n ≤ 1000000) :
    Calls Ybaf.prog 28 #[.slice (some ⟨blk, off, none⟩) n cap, .int .i64 a, .int .i64 b] w fun e w' => ∃ p hint : Nat, e = .returned (.tuple #[.int .i64 p, .int .i64 hint]) ∧ (a ≤ p ∧ p < b) ∧ hint ≤ 2 ∧ RK w0 w' blk off n := by
  obtain ⟨sb, hsb⟩ : ∃ sb, w.heap.size = sb := ⟨_, rfl⟩
  have HSb : Hid (w.heap.size = sb) := hsb
  obtain ⟨w1, HW1⟩ : ∃ W : World, Hid (W = w.alloc (.cells #[.int .i64 0] 3)) := ⟨_, rfl⟩
  have H1 : Hid (CK w0 w1 blk off n sb 0) := by
    rw [HW1.out]
    exact ⟨h.keep ((Below.refl _ _).alloc (Nat.le_refl _) _), new_at hsb.symm, by have := h.size; omega, by have := h.lt (by omega); omega⟩
  obtain ⟨L, hL⟩ : ∃ L : Nat, (b : Int) - (a : Int) = (L : Int) := ⟨b - a, by omega⟩
  have HL : Hid ((b : Int) - (a : Int) = (L : Int)) := hL
  have h8L : 8 ≤ L := by omega
  have HbL : Hid (b = a + L) := by show b = a + L; omega
  clear h hsb hL
  go_enter Ybaf.func28, Ybaf.ntmps28
  go_upto_region 6 with fail
  obtain ⟨i, hi⟩ : ∃ i : Nat, i + 1 = a + L / 4 := ⟨a + L / 4 - 1, by omega⟩
  obtain ⟨j, hj⟩ : ∃ j : Nat, j + 1 = a + L / 4 * 2 := ⟨a + L / 4 * 2 - 1, by omega⟩
  obtain ⟨k, hk⟩ : ∃ k : Nat, k + 1 = a + L / 4 * 3 := ⟨a + L / 4 * 3 - 1, by omega⟩
  rw [HL.out, ← HW1.out, HSb.out, show (a : Int) + (L : Int) / 4 * 3 = (k : Int) + 1 by omega, show (a : Int) + (L : Int) / 4 * 2 = (j : Int) + 1 by omega, show (a : Int) + (L : Int) / 4 = (i : Int) + 1 by omega]
  have bi : a ≤ i + 1 ∧ i + 1 < b := by have := HbL.out; omega
  have bj : a ≤ j + 1 ∧ j + 1 < b := by have := HbL.out; omega
  have bk : a ≤ k + 1 ∧ k + 1 < b := by have := HbL.out; omega
  have b50 : 50 ≤ L → (a ≤ i ∧ i + 2 < b) ∧ (a ≤ j ∧ j + 2 < b) ∧ (a ≤ k ∧ k + 2 < b) := by have := HbL.out; omega
  clear HW1
  have HI : Hid (i + 1 = a + L / 4 ∧ j + 1 = a + L / 4 * 2 ∧ k + 1 = a + L / 4 * 3) := ⟨hi, hj, hk⟩
  clear hi hj hk
  go_upto_if 34 with fail
  go_cut [10, 11, 12] from 31 to 43 (fun x y z wx => ∃ x1 y1 z1 s : Nat, x = .int .i64 x1 ∧ y = .int .i64 y1 ∧ z = .int .i64 z1 ∧ (a ≤ x1 ∧ x1 < b) ∧ (a ≤ y1 ∧ y1 < b) ∧ (a ≤ z1 ∧ z1 < b) ∧ s ≤ 9 ∧ Hid (CK w0 wx blk off n sb s))
  case first =>
    by_cases h50 : 50 ≤ L
    · obtain ⟨q1, q2, q3⟩ := b50 h50
      have HC1 : Hid (Calls Ybaf.prog 54 _ w1 _) := adjacent_calls blk off n cap i sb 0 a b w0 w1 H1.out q1 hb hn (by omega)
      go_upto_region 9 with (go_at_call 54; refine HC1.out.mono ?_; rintro e' w2 ⟨x2, rfl, hx2, s2, hs2, h2⟩; have H2 : Hid (CK w0 w2 blk off n sb s2) := h2; clear h2)
      have HC2 : Hid (Calls Ybaf.prog 54 _ w2 _) := adjacent_calls blk off n cap j sb s2 a b w0 w2 H2.out q2 hb hn (by omega)
      go_upto_region 10 with (go_at_call 54; refine HC2.out.mono ?_; rintro e' w3 ⟨x3, rfl, hx3, s3, hs3, h3⟩; have H3 : Hid (CK w0 w3 blk off n sb s3) := h3; clear h3)
      have HC3 : Hid (Calls Ybaf.prog 54 _ w3 _) := adjacent_calls blk off n cap k sb s3 a b w0 w3 H3.out q3 hb hn (by omega)
      go_wp2_with (go_at_call 54; refine HC3.out.mono ?_; rintro e' w4 ⟨x4, rfl, hx4, s4, hs4, h4⟩; have H4 : Hid (CK w0 w4 blk off n sb s4) := h4; clear h4)
      go_meet
      exact ⟨x2, x3, x4, s4, rfl, rfl, rfl, hx2, hx3, hx4, by omega, H4⟩
    · go_wp2_with fail
      go_meet
      exact ⟨i + 1, j + 1, k + 1, 0, by go_num, by go_num, by go_num, bi, bj, bk, by omega, H1⟩
  case rest =>
  obtain ⟨x1, y1, z1, s1, rfl, rfl, rfl, hx, hy, hz, hs, H2⟩ := hcut
  have HC : Hid (Calls Ybaf.prog 55 _ wc _) := median_calls blk off n cap x1 y1 z1 sb s1 a b w0 wc H2.out hx hy hz hb hn (by omega)
  clear HI b50 bi bj bk H1
  go_upto_region 12 with (go_at_call 55; refine HC.out.mono ?_; rintro e' w3 ⟨p, rfl, hp, s3, hs3, h3⟩; have H3 : Hid (CK w0 w3 blk off n sb s3) := h3; clear h3)
  have c0 : w3.cell? ⟨sb, 0, none⟩ = some (.int .i64 (s3 : Int)) := cell_of H3.out.at_ rfl
  by_cases e0 : s3 = 0
  · subst e0
    go_wp2_with fail
    go_ret2
    exact ⟨p, 1, rfl, hp, by omega, H3.out.rk⟩
  · by_cases e12 : s3 = 12
    · subst e12
      go_wp2_with fail
      go_ret2
      exact ⟨p, 2, rfl, hp, by omega, H3.out.rk⟩
    · have e0' : ((s3 : Int) == 0) = false := by simp; omega
      have e12' : ((s3 : Int) == 12) = false := by simp; omega
      go_wp2_with fail
      go_ret2
      exact ⟨p, 0, rfl, hp, by omega, H3.out.rk⟩
end Go.Proofs.YbulkdxyaFmt
