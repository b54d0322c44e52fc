/- The heap sort of a row, whatever it holds. -/
import Derived.Test.YbulkdxyaFmtSk
namespace Go.Proofs.YbulkdxyaFmt
open Go.RowKit
set_option linter.unusedSimpArgs false
set_option linter.unusedVariables false

set_option maxRecDepth 1000000 in
set_option maxHeartbeats 4000000 in
theorem sift_calls (blk off n cap lo hi first : Nat) (w0 w : World) (h : RK w0 w blk off n) (hlo : lo ≤ hi) (hb : first + hi ≤ n) (hn : n ≤ 1000000) :
    Calls Ybaf.prog 51 #[.slice (some ⟨blk, off, none⟩) n cap, .int .i64 lo, .int .i64 hi, .int .i64 first] w fun e w' => e = .returned (.tuple #[]) ∧ RK w0 w' blk off n := by
  have H0 : Hid (RK w0 w blk off n) := h
  clear h
  go_enter Ybaf.func51, Ybaf.ntmps51
  go_wp2_with fail
  go_loopg [8, 9] (hi - lo) (fun g x y wr => ∃ r : Nat, g = hi - r ∧ r ≤ hi ∧ x = .int .i64 r ∧ Hid (RK w0 wr blk off n))
  case atStart => exact ⟨lo, rfl, by omega, rfl, H0⟩
  case round =>
    clear H0
    obtain ⟨r, rfl, hr, rfl, HK⟩ := hrel
    by_cases hc : 2 * r + 1 < hi
    · have hc' : ¬ (hi : Int) ≤ 2 * (r : Int) + 1 := by omega
      go_upto_region 3 with fail
      go_cut [36] from 17 to 35 (fun c wx => (∃ bb : Bool, c = .bool bb ∧ (bb = true → 2 * r + 2 < hi)) ∧ Hid (RK w0 wx blk off n))
      case first =>
        obtain ⟨f, hcw, hfw⟩ := HK.out.fam
        by_cases h2 : 2 * r + 2 < hi
        · have h2' : 2 * (r : Int) + 1 + 1 < (hi : Int) := by omega
          go_quiet ((go_at_call 31; exact Calls.quiet_of_same (less_calls _ _ _)))
          go_wp2_with fail
          go_meet
          exact ⟨⟨_, rfl, fun _ => h2⟩, HK.out.drewN _⟩
        · have h2' : ¬ 2 * (r : Int) + 1 + 1 < (hi : Int) := by omega
          go_quiet ((go_at_call 31; exact Calls.quiet_of_same (less_calls _ _ _)))
          go_wp2_with fail
          go_meet
          exact ⟨⟨_, rfl, fun e => by cases e⟩, HK.out.drewN _⟩
      case rest =>
      clear HK
      obtain ⟨⟨bb, rfl, hbb⟩, HK⟩ := hcut
      go_upto_if 36 with fail
      go_cut [9] from 37 to 38 (fun c wx => ∃ ch : Nat, c = .int .i64 ch ∧ r < ch ∧ ch < hi ∧ Hid (RK w0 wx blk off n))
      case first =>
        cases bb with
        | false =>
          go_wp2_with fail
          go_meet
          exact ⟨2 * r + 1, by go_num, by omega, by omega, HK⟩
        | true =>
          have := hbb rfl
          go_wp2_with fail
          go_meet
          exact ⟨2 * r + 2, by go_num, by omega, by omega, HK⟩
      case rest =>
      clear HK hbb
      obtain ⟨ch, rfl, hr1, hch, HK⟩ := hcut
      obtain ⟨f, hcw, hfw⟩ := HK.out.fam
      by_cases hl : f (first + r) < f (first + ch)
      · have hl' : decide (f (first + r) < f (first + ch)) = true := by simp [hl]
        go_upto_region 5 with fail
        go_quiet ((go_at_call 31; exact Calls.quiet_of_same (less_calls _ _ _)))
        have HK2 : Hid (RK w0 (World.drewN _ nq) blk off n) := HK.out.drewN nq
        generalize World.drewN _ nq = wr2 at HK2 ⊢
        clear hcw hfw HK
        obtain ⟨f2, hcw, hfw⟩ := HK2.out.fam
        go_upto_region 6 with fail
        go_region
        go_wp2_with fail
        go_roundg (hi - ch)
        case measure => omega
        case rel => exact ⟨ch, rfl, by omega, rfl, ((HK2.out.set _ _).set _ _).drew⟩
      · go_upto_region 5 with fail
        go_quiet ((go_at_call 31; exact Calls.quiet_of_same (less_calls _ _ _)))
        go_wp2_with fail
        refine bodyPost_ret (results_none rfl _ _ _) rfl ?_
        exact ⟨rfl, HK.out.drewN _⟩
    · have hc' : (hi : Int) ≤ 2 * (r : Int) + 1 := by omega
      go_wp2_with fail
      go_end0
      exact ⟨rfl, HK.out⟩

theorem half_of (L : Nat) : ∃ m : Nat, ((L : Int) - 1).tdiv 2 = (m : Int) - 1 ∧ m ≤ L + 1 ∧ m - 1 ≤ L := by
  by_cases h : L = 0
  · subst h
    exact ⟨1, by decide, by omega, by omega⟩
  · refine ⟨(L - 1) / 2 + 1, ?_, by omega, by omega⟩
    rw [Int.tdiv_eq_ediv_of_nonneg (by omega)]
    omega
set_option maxRecDepth 1000000 in
set_option maxHeartbeats 4000000 in
theorem heap_calls (blk off n cap a b : Nat) (w0 w : World) (h : RK w0 w blk off n) (hab : a ≤ b) (hb : b ≤ n) (hn : n ≤ 1000000) :
    Calls Ybaf.prog 26 #[.slice (some ⟨blk, off, none⟩) n cap, .int .i64 a, .int .i64 b] w fun e w' => e = .returned (.tuple #[]) ∧ RK w0 w' blk off n := by
  have H0 : Hid (RK w0 w blk off n) := h
  obtain ⟨L, hL⟩ : ∃ L, b = a + L := ⟨b - a, by omega⟩
  obtain ⟨m, hm, hm1, hm2⟩ := half_of L
  subst hL
  clear h
  go_enter Ybaf.func26, Ybaf.ntmps26
  go_upto_block 0 with fail
  rw [show (a : Int) + (L : Int) - (a : Int) = (L : Int) by omega, hm]
  clear hm
  go_cut [9] from 18 to 26 (fun c wx => Hid (RK w0 wx blk off n))
  case first =>
    go_wp2_with fail
    go_loopg [9] m (fun g x wr => ∃ i : Nat, i = g ∧ i ≤ m ∧ x = .int .i64 ((i : Int) - 1) ∧ Hid (RK w0 wr blk off n))
    case atStart => exact ⟨m, rfl, Nat.le_refl _, rfl, H0⟩
    case round =>
      clear H0
      obtain ⟨i, rfl, hi, rfl, HK⟩ := hrel
      by_cases h0 : i = 0
      · subst h0
        go_wp2_with fail
        go_meet
        exact HK
      · obtain ⟨k, rfl⟩ : ∃ k, i = k + 1 := ⟨i - 1, by omega⟩
        go_wp2_with (go_at_call 51; refine (sift_calls blk off n cap k L a w0 _ HK.out (by omega) (by omega) hn).mono ?_; rintro e' w2 ⟨rfl, hk⟩; have HK2 : Hid (RK w0 w2 blk off n) := hk; clear hk)
        go_roundg k
        case measure => omega
        case rel => exact ⟨k, rfl, by omega, by go_num, HK2⟩
  case rest =>
  clear H0
  have HK : Hid (RK w0 wc blk off n) := hcut
  clear hcut
  go_wp2_with fail
  go_loopg [10] L (fun g x wr => ∃ i : Nat, i = g ∧ i ≤ L ∧ x = .int .i64 ((i : Int) - 1) ∧ Hid (RK w0 wr blk off n))
  case atStart => exact ⟨L, rfl, Nat.le_refl _, rfl, HK⟩
  case round =>
    clear HK
    obtain ⟨i, rfl, hi, rfl, HK⟩ := hrel
    by_cases h0 : i = 0
    · subst h0
      go_wp2_with fail
      go_end0
      exact ⟨rfl, HK.out⟩
    · obtain ⟨k, rfl⟩ : ∃ k, i = k + 1 := ⟨i - 1, by omega⟩
      obtain ⟨f, hcw, hfw⟩ := HK.out.fam
      obtain ⟨u, hu⟩ := cell?_setCell_some (p := ⟨blk, off + a, none⟩) (x := .int .u64 (f (a + k))) (hcw (a + k) (by omega))
      go_upto_region 10 with fail
      go_region
      clear hu
      have HK2 : Hid (RK w0 (World.drew _) blk off n) := ((HK.out.set (off + a) (f (a + k))).set (off + (a + k)) (f a)).drew
      clear hcw hfw HK
      generalize World.drew _ = wr2 at HK2 ⊢
      go_wp2_with (go_at_call 51; refine (sift_calls blk off n cap 0 k a w0 _ HK2.out (by omega) (by omega) hn).mono ?_; rintro e' w3 ⟨rfl, hk⟩; have HK3 : Hid (RK w0 w3 blk off n) := hk; clear hk)
      go_roundg k
      case measure => omega
      case rel => exact ⟨k, rfl, by omega, by go_num, HK3⟩
end Go.Proofs.YbulkdxyaFmt
