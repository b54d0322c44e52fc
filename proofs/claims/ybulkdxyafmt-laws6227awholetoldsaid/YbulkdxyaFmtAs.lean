/- slices.Clone, Sort and Compact at uint64, whatever the row holds: by contract. -/
import Derived.Test.YbulkdxyaFmtSq
import Derived.Test.YbulkdxyaFmtSmall
import Derived.Lib.SliceRun
namespace Go.Proofs.YbulkdxyaFmt
open Go.RowKit
set_option linter.unusedSimpArgs false
set_option linter.unusedVariables false

theorem inf30 : (Ybaf.prog.info? 30).map (fun i => (i.zero, i.size, i.bytes)) = some (some (.int .u64 0), 1, 8) := by kernel_rfl
theorem zero30 (w : World) : (zeroValue 30).run Ybaf.prog w = .ok (.int .u64 0) w := by kernel_rfl
theorem own_rk {w : World} {B n : Nat} {v : Value} {vv : Nat → Int} (h : w.ownsRow B 30 1 v n ((List.range n).map fun i => .int .u64 (vv i))) (hn : 0 < n) : ∃ g cap, v = .slice (some ⟨g, 0, none⟩) n cap ∧ n ≤ cap ∧ RK w w g 0 n ∧ B ≤ g := by
  obtain ⟨h1, h2⟩ := h
  rcases h2 with ⟨rfl, rfl⟩ | ⟨g, cap, cur, rfl, hB, h3, h4, h5, h6, h7⟩
  · omega
  · refine ⟨g, cap, rfl, by omega, ⟨fun t ht => ⟨vv t, cell_of h3 ?_⟩, fun t ht => frozen_of h3, fun _ _ _ => rfl, Nat.le_refl _, rfl, rfl, rfl⟩, hB⟩
    have := congrArg (fun l => l[t]?) h7
    simp [List.getElem?_take, ht] at this
    rw [Nat.zero_add]
    exact this

set_option maxRecDepth 100000 in
set_option maxHeartbeats 4000000 in
theorem clone5_none (p : Option Addr) (c : Nat) (w : World) :
    Calls Ybaf.prog 5 #[.slice p 0 c] w fun e w' => ∃ p' c', e = .returned (.slice p' 0 c') ∧ Below w.heap.size w w' := by
  cases p with
  | none =>
    have q0 : ∀ w : World, (binOp BinOp.eql 22 (.slice none 0 c) (.slice none 0 0)).run Ybaf.prog w = .ok (.bool true) w := fun w => by kernel_rfl
    go_enter Ybaf.func5, Ybaf.ntmps5
    go_wp2_with fail
    go_ret
    exact ⟨none, 0, rfl, Below.refl _ _⟩
  | some ad =>
    have q0 : ∀ w : World, (binOp BinOp.eql 22 (.slice (some ad) 0 c) (.slice none 0 0)).run Ybaf.prog w = .ok (.bool false) w := fun w => by kernel_rfl
    go_enter Ybaf.func5, Ybaf.ntmps5
    go_wp2_with fail
    go_ret
    exact ⟨_, _, rfl, (Below.refl _ _).alloc (Nat.le_refl _) _⟩

set_option maxRecDepth 100000 in
set_option maxHeartbeats 4000000 in
theorem clone5_calls (p : Option Addr) (n c : Nat) (vv : Nat → Int) (w : World) (hv : OV w p n vv) (hn0 : 0 < n) (hn : n ≤ 1000000) :
    Calls Ybaf.prog 5 #[.slice p n c] w fun e w' => ∃ g cap, e = .returned (.slice (some ⟨g, 0, none⟩) n cap) ∧ n ≤ cap ∧ RK w' w' g 0 n ∧ w.heap.size ≤ g ∧ Below w.heap.size w w' := by
  obtain ⟨ad, rfl, hcell⟩ := hv hn0
  obtain ⟨i30, hi30, hz0, hz1, hz2⟩ := info_parts inf30
  have q0 : ∀ w : World, (binOp BinOp.eql 22 (.slice (some ad) n c) (.slice none 0 0)).run Ybaf.prog w = .ok (.bool false) w := fun w => by kernel_rfl
  have hcell' : ∀ i, i < n → w.cell? (ad.add i) = some (.int .u64 (vv i)) ∧ ad.block < w.heap.size := fun i hi => ⟨hcell i hi, by have := lt_of_cell (hcell i hi); rwa [add_block] at this⟩
  have HC : Hid (∀ j u, ((List.range n).map fun i => Value.int .u64 (vv i))[j]? = some u → (w.alloc (.cells #[] 30)).cell? (ad.add j) = some u) := fun j u hu => by
    have hj : j < n := by
      have := (List.getElem?_eq_some_iff.1 hu).1
      simpa using this
    simp [List.getElem?_range hj] at hu
    rw [← hu]
    exact (((Below.refl w.heap.size w).alloc (Nat.le_refl _) _).cell (p := ad.add j) (by rw [add_block]; exact (hcell' j hj).2)).trans (hcell' j hj).1
  have HO : Hid (∀ u ∈ ((List.range n).map fun i => Value.int .u64 (vv i)), u.oneCell' = true) := fun u hu => by
    simp at hu
    obtain ⟨a, _, rfl⟩ := hu
    rfl
  clear hcell hcell' hv
  go_enter Ybaf.func5, Ybaf.ntmps5
  go_wp2_with (at_builtin; go_must (refine wpList_append_grows _ rfl (.tmp 5) (.tmp 6) 22 rfl 30 i30 (.int .u64 0) 1 8 Ybaf.underlying22 hi30 hz0 hz1 hz2 rfl (by decide) (some ⟨w.heap.size, 0, none⟩) 0 0 [] rfl (fun e => by cases e) rfl (fun b _ j u hu => by simp at hu) ad n c ((List.range n).map fun i => .int .u64 (vv i)) rfl (by simp) HC.out HO.out (by omega) (by unfold maxLen; omega) (by omega) ?_); intro v' w2 hown hgrow; have HG : Hid (w2.ownsRow (w.heap.size + 1) 30 1 v' n ((List.range n).map fun i => .int .u64 (vv i)) ∧ (w.alloc (.cells #[] 30)).grownBy w2 none) := ⟨by simpa using hown, hgrow⟩; clear hown hgrow)
  obtain ⟨g, cap, rfl, hcap, h1, h2⟩ := own_rk HG.out.1 hn0
  go_ret
  have hg := HG.out.2
  refine ⟨g, cap, rfl, hcap, h1, by omega, ((Below.refl _ _).alloc (Nat.le_refl _) (.cells #[] 30)).trans ?_⟩
  exact ⟨hg.os, hg.tape, hg.output, hg.size, fun k hk => hg.block k (by simp; omega) (by simp)⟩

set_option maxRecDepth 100000 in
set_option maxHeartbeats 4000000 in
theorem sort_none (p : Option Addr) (c : Nat) (w : World) : Calls Ybaf.prog 6 #[.slice p 0 c] w fun e w' => e = .returned (.tuple #[]) ∧ w = w' := by
  have H25 : Hid (∀ w, Calls Ybaf.prog 25 #[.slice p 0 c, .int .i64 0, .int .i64 0] w fun e w' => e = .returned (.tuple #[]) ∧ w = w') := fun w => by
    show Calls _ _ _ _ _
    go_enter Ybaf.func25, Ybaf.ntmps25
    go_wp2_with fail
    go_loopg [6, 7] 0 (fun g x y wr => g = 0 ∧ x = .int .i64 1 ∧ wr = w)
    case atStart => exact ⟨rfl, rfl, rfl⟩
    case round =>
      obtain ⟨rfl, rfl, rfl⟩ := hrel
      go_wp2_with fail
      go_end0
      exact ⟨rfl, rfl⟩
  obtain ⟨l, hl, _, hc⟩ := len_calls 0 (by omega)
  have HC : Hid (∀ w, Calls Ybaf.prog 17 #[.int .u64 0] w fun e w' => e = .returned (.int .i64 (l : Int)) ∧ w' = w) := hc
  have H16 : Hid (Calls Ybaf.prog 16 #[.slice p 0 c, .int .i64 0, .int .i64 0, .int .i64 l] w fun e w' => e = .returned (.tuple #[]) ∧ w = w') := by
    show Calls _ _ _ _ _
    clear hc HC
    go_enter Ybaf.func16, Ybaf.ntmps16
    go_wp2_with fail
    go_loopg [1, 2, 3, 8, 9] 0 (fun g x y z u v wr => g = 0 ∧ x = .int .i64 0 ∧ y = .int .i64 0 ∧ wr = w)
    case atStart => exact ⟨rfl, rfl, rfl, rfl⟩
    case round =>
      obtain ⟨rfl, rfl, rfl, rfl⟩ := hrel
      go_wp2_with (go_at_call 25; refine (H25.out _).mono ?_; rintro e' w' ⟨rfl, rfl⟩)
      refine bodyPost_ret (results_none rfl _ _ _) rfl ?_
      exact ⟨rfl, rfl⟩
  clear hc
  go_enter Ybaf.func6, Ybaf.ntmps6
  go_wp2_with (first
    | (go_at_call 17; refine (HC.out _).mono ?_; rintro e' w' ⟨rfl, rfl⟩)
    | (go_at_call 16; refine H16.out.mono ?_; rintro e' w2 ⟨rfl, rfl⟩))
  go_end0
  exact ⟨rfl, rfl⟩

theorem RK.setCells {w0 : World} {blk off n : Nat} : ∀ (k o : Nat) {w : World}, RK w0 w blk off n → RK w0 (w.setCells blk o (List.replicate k (.int .u64 0))) blk off n
  | 0, _, _, h => h
  | k + 1, o, _, h => RK.setCells k (o + 1) (h.set o 0)

set_option maxRecDepth 1000000 in
set_option maxHeartbeats 4000000 in
theorem compact_short (p : Option Addr) (n c : Nat) (w : World) (hn : n < 2) : Calls Ybaf.prog 7 #[.slice p n c] w fun e w' => e = .returned (.slice p n c) ∧ w = w' := by
  have hn' : (n : Int) < 2 := by omega
  go_enter Ybaf.func7, Ybaf.ntmps7
  go_wp2_with fail
  go_ret
  exact ⟨rfl, rfl⟩

set_option maxRecDepth 1000000 in
set_option maxHeartbeats 4000000 in
theorem compact_calls (blk off n cap : Nat) (w0 w : World) (h : RK w0 w blk off n) (h2 : 2 ≤ n) (hcap : n ≤ cap) (hn : n ≤ 1000000) :
    Calls Ybaf.prog 7 #[.slice (some ⟨blk, off, none⟩) n cap] w fun e w' => ∃ m : Nat, e = .returned (.slice (some ⟨blk, off, none⟩) m cap) ∧ m ≤ n ∧ RK w0 w' blk off n := by
  have H0 : Hid (RK w0 w blk off n) := h
  have h2' : ¬ (n : Int) < 2 := by omega
  clear h
  go_enter Ybaf.func7, Ybaf.ntmps7
  go_wp2_with fail
  go_loopg [3] n (fun g x wr => ∃ k : Nat, 1 ≤ k ∧ k ≤ n ∧ n - k ≤ g ∧ x = .int .i64 k ∧ Hid (RK w0 wr blk off n))
  case atStart => exact ⟨1, Nat.le_refl _, by omega, by omega, rfl, H0⟩
  case round =>
    clear H0
    obtain ⟨k, hk1, hk, hg, rfl, HK⟩ := hrel
    by_cases hlt : k < n
    · obtain ⟨q, rfl⟩ : ∃ q, k = q + 1 := ⟨k - 1, by omega⟩
      have hlt' : (q : Int) + 1 < (n : Int) := by omega
      obtain ⟨f, hcw, hfw⟩ := HK.out.fam
      rcases hb : (f (q + 1) == f q) with _ | _
      · go_upto_region 6 with fail
        go_quiet (fail)
        go_wp2_with fail
        go_roundg (n - (q + 1 + 1))
        case measure => omega
        case rel => exact ⟨q + 1 + 1, by omega, by omega, Nat.le_refl _, by go_num, HK.out.drewN _⟩
      · go_upto_region 6 with fail
        go_quiet (fail)
        have HK2 : Hid (RK w0 (World.drewN _ nq) blk off n) := HK.out.drewN nq
        generalize World.drewN _ nq = wr2 at HK2 ⊢
        clear hcw hfw HK hb
        go_wp2_with fail
        obtain ⟨K, hK⟩ : ∃ K, q + 1 = K := ⟨_, rfl⟩
        obtain ⟨L, hL⟩ : ∃ L, n - K = L := ⟨_, rfl⟩
        rw [hK, hL]
        have hKL : K + L = n := by omega
        have hK1 : 1 ≤ K := by omega
        have hL1 : 1 ≤ L := by omega
        have hLb : L ≤ 1000000 := by omega
        have hKb : K ≤ 1000000 := by omega
        have HKL : Hid (K + L = n) := hKL
        clear hK hL hKL hg hk1 hk hlt'
        go_loopg [3, 5] n (fun g x y wr => ∃ kk k2 : Nat, 1 ≤ k2 ∧ k2 ≤ L ∧ kk + 1 ≤ K + k2 ∧ L - k2 ≤ g ∧ x = .int .i64 kk ∧ y = .int .i64 k2 ∧ Hid (RK w0 wr blk off n))
        case atStart => exact ⟨K, 1, Nat.le_refl _, hL1, Nat.le_refl _, by have := HKL.out; omega, rfl, rfl, HK2⟩
        case round =>
          clear HK2
          obtain ⟨kk, k2, h1, hL2, hkk, hg, rfl, rfl, HK⟩ := hrel
          have hn1 : kk < n := by have := HKL.out; omega
          obtain ⟨f, hcw, hfw⟩ := HK.out.fam
          by_cases hlt2 : k2 < L
          · obtain ⟨r, rfl⟩ : ∃ r, k2 = r + 1 := ⟨k2 - 1, by omega⟩
            have hlt2' : (r : Int) + 1 < (L : Int) := by omega
            have cm := hcw (K + (r + 1)) (by have := HKL.out; omega)
            have cp := hcw (K + r) (by have := HKL.out; omega)
            rw [← Nat.add_assoc] at cm cp
            clear hcw hfw
            generalize f (K + (r + 1)) = x at cm
            generalize f (K + r) = y at cp
            rcases hb : (x != y) with _ | _
            · go_upto_region 11 with fail
              go_quiet (fail)
              go_wp2_with fail
              go_roundg (L - (r + 1 + 1))
              case measure => omega
              case rel => exact ⟨kk, r + 1 + 1, by omega, by omega, by omega, Nat.le_refl _, rfl, by go_num, HK.out.drewN _⟩
            · go_upto_region 11 with fail
              go_quiet (fail)
              have HK3 : Hid (RK w0 (World.drewN _ nq) blk off n) := HK.out.drewN nq
              generalize World.drewN _ nq = wr3 at HK3 ⊢
              clear cm cp HK hb
              obtain ⟨f2, hcw, hfw⟩ := HK3.out.fam
              have cm := hcw (K + (r + 1)) (by have := HKL.out; omega)
              rw [← Nat.add_assoc] at cm
              have ck := hcw kk hn1
              have fk := hfw kk hn1
              clear hcw hfw
              generalize f2 (K + (r + 1)) = x2 at cm
              generalize f2 kk = y2 at ck
              go_wp2_with fail
              go_roundg (L - (r + 1 + 1))
              case measure => omega
              case rel => exact ⟨kk + 1, r + 1 + 1, by omega, by omega, by omega, Nat.le_refl _, by go_num, by go_num, HK3.out.set _ _⟩
          · have hlt2' : ¬ (k2 : Int) < (L : Int) := by omega
            have hcl : ∀ ty, (Builtin.clear_ #[22] ty #[.slice (some ⟨blk, off + kk, none⟩) (n - kk) (cap - kk)]).run Ybaf.prog _ = .ok (.tuple #[]) (World.setCells _ blk (off + kk) (List.replicate (n - kk) (.int .u64 0))) :=
              fun ty => Lib.run_clear_slice _ _ _ ty _ Ybaf.underlying22 zero30 rfl rfl blk (off + kk) _ _ (by omega) (fun j hj => by rw [show off + kk + j = off + (kk + j) by omega, hcw (kk + j) (by omega)]; rfl) (fun j hj => by rw [show off + kk + j = off + (kk + j) by omega]; exact hfw (kk + j) (by omega))
            clear hcw hfw
            go_wp2_with fail
            go_ret
            exact ⟨kk, rfl, by omega, HK.out.setCells _ _⟩
    · have hlt' : ¬ (k : Int) < (n : Int) := by omega
      go_wp2_with fail
      go_ret
      exact ⟨n, rfl, Nat.le_refl _, HK.out⟩
end Go.Proofs.YbulkdxyaFmt
