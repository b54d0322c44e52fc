/- The bits, the random numbers, breakPatterns on a row, whatever it holds. -/
import Derived.Test.YbulkdxyaFmtSk
import Derived.Test.YbulkdxyaFmtBits
import Derived.Lib.ItoaNum
import Derived.Laws.Bits64
import Derived.Laws.Bits64b
namespace Go.Proofs.YbulkdxyaFmt
open Go.RowKit
set_option linter.unusedSimpArgs false
set_option linter.unusedVariables false

theorem len_calls (n : Nat) (hn : n ≤ 1000000) : ∃ l : Nat, l ≤ 20 ∧ (0 < n → 2 ^ l ≤ 2 * n) ∧ ∀ w, Calls Ybaf.prog 17 #[.int .u64 n] w fun e w' => e = .returned (.int .i64 (l : Int)) ∧ w' = w := by
  refine ⟨Lib.bitLen n, Lib.bitLen_le n 20 (by omega) (by have : (2 : Nat) ^ 20 = 1048576 := rfl; omega), fun h => ?_, fun w => ?_⟩
  · obtain ⟨a, b, c⟩ := Lib.bitLenAux_bounds 64 n (by have : (2 : Nat) ^ 64 = 18446744073709551616 := rfl; omega) (by omega)
    show 2 ^ Lib.bitLenAux 64 n ≤ 2 * n
    obtain ⟨k, hk⟩ : ∃ k, Lib.bitLenAux 64 n = k + 1 := ⟨Lib.bitLenAux 64 n - 1, by omega⟩
    rw [hk] at b ⊢
    rw [Nat.pow_succ]
    simp at b
    omega
  · have h := len64_calls (n : Int) w (by omega) (by omega)
    rw [Int.toNat_natCast] at h
    have H : Hid (Calls Ybaf.prog 35 _ w _) := h
    clear h
    go_enter Ybaf.func17, Ybaf.ntmps17
    go_wp2_with (go_at_call 35; refine H.out.mono ?_; rintro e w' ⟨rfl, rfl⟩)
    go_ret
    exact ⟨rfl, rfl⟩
theorem two_pow_wrap (k : Nat) (hk : k ≤ 62) : IntKind.u64.wrap ((2 : Int) ^ k) = ((2 ^ k : Nat) : Int) := by
  have h : (2 : Nat) ^ k ≤ 2 ^ 62 := Nat.pow_le_pow_right (by decide) hk
  rw [IntKind.wrap_u64, show ((2 : Int) ^ k) = ((2 ^ k : Nat) : Int) by push_cast; rfl]
  generalize (2 : Nat) ^ k = p at h
  omega
set_option maxRecDepth 100000 in
theorem pow_calls (n : Nat) (hn : n ≤ 1000000) (h0 : 0 < n) : ∃ M : Nat, 1 ≤ M ∧ M ≤ 2 * n ∧ ∀ w, Calls Ybaf.prog 52 #[.int .i64 n] w fun e w' => e = .returned (.int .u64 (M : Int)) ∧ w' = w := by
  obtain ⟨l, hl, hp, hc⟩ := len_calls n hn
  refine ⟨2 ^ l, Nat.two_pow_pos _, hp h0, fun w => ?_⟩
  have HC : Hid (∀ w, Calls Ybaf.prog 17 #[.int .u64 n] w fun e w' => e = .returned (.int .i64 (l : Int)) ∧ w' = w) := hc
  have hq := two_pow_wrap l (by omega)
  obtain ⟨P, hP⟩ : ∃ P : Nat, 2 ^ l = P := ⟨_, rfl⟩
  rw [hP] at hq ⊢
  clear hc hp hP
  go_enter Ybaf.func52, Ybaf.ntmps52
  go_wp2_with (go_at_call 17; refine (HC.out _).mono ?_; rintro e w' ⟨rfl, rfl⟩)
  go_ret
  exact ⟨rfl, rfl⟩

theorem xor_nat (X Y : Nat) (hX : X < 18446744073709551616) (hY : Y < 18446744073709551616) : ∃ A : Nat, A < 18446744073709551616 ∧ bits .xor .u64 (X : Int) (Y : Int) = (A : Int) :=
  ⟨X ^^^ Y, Nat.xor_lt_two_pow (n := 64) (by omega) (by omega), bits_xor_u64_nat _ _ hX hY⟩
set_option maxRecDepth 100000 in
set_option maxHeartbeats 2000000 in
theorem next_calls (rb X : Nat) (w : World) (hX : X < 18446744073709551616) (hr : w.heap[rb]? = some (.cells #[.int .u64 X] 160 (0, 0))) :
    Calls Ybaf.prog 53 #[.pointer (some ⟨rb, 0, none⟩)] w fun e w' => ∃ Y : Nat, Y < 18446744073709551616 ∧ e = .returned (.int .u64 Y) ∧ BStep 160 rb #[.int .u64 Y] w w' := by
  obtain ⟨A, lA, e1⟩ := xor_nat X (X * 8192 % 18446744073709551616) hX (by omega)
  obtain ⟨B, lB, e2⟩ := xor_nat A (A / 128) lA (by omega)
  obtain ⟨C, lC, e3⟩ := xor_nat B (B * 131072 % 18446744073709551616) lB (by omega)
  rw [show ((X * 8192 % 18446744073709551616 : Nat) : Int) = IntKind.u64.wrap ((X : Int) * 8192) by rw [IntKind.wrap_u64]; omega] at e1
  rw [show ((A / 128 : Nat) : Int) = (A : Int) / 128 by omega] at e2
  rw [show ((B * 131072 % 18446744073709551616 : Nat) : Int) = IntKind.u64.wrap ((B : Int) * 131072) by rw [IntKind.wrap_u64]; omega] at e3
  have H0 : Hid (BStep 160 rb #[.int .u64 X] w w) := BStep.refl hr
  have c0 : w.cell? ⟨rb, 0, none⟩ = some (.int .u64 X) := cell_of hr rfl
  have f0 : w.frozen? ⟨rb, 0, none⟩ = false := frozen_of hr
  clear hr
  go_enter Ybaf.func53, Ybaf.ntmps53
  go_upto_region 1 with fail
  go_cut [] from 3 to 11 (fun wx => Hid (BStep 160 rb #[.int .u64 A] w wx))
  case first =>
    go_region
    all_goals go_wp2_with fail
    all_goals go_meet
    all_goals (have h := (H0.out.set 0 (.int .u64 A)).drew; simp at h; exact h)
  case rest =>
  have H1 : Hid (BStep 160 rb #[.int .u64 A] w wc) := hcut
  clear hcut c0 f0 H0
  have c0 : wc.cell? ⟨rb, 0, none⟩ = some (.int .u64 A) := H1.out.cell rfl
  have f0 := H1.out.frozen 0
  go_upto_region 2 with fail
  go_cut [] from 12 to 20 (fun wx => Hid (BStep 160 rb #[.int .u64 B] w wx))
  case first =>
    go_region
    all_goals go_wp2_with fail
    all_goals go_meet
    all_goals (have h := (H1.out.set 0 (.int .u64 B)).drew; simp at h; exact h)
  case rest =>
  have H2 : Hid (BStep 160 rb #[.int .u64 B] w wc) := hcut
  clear hcut c0 f0 H1
  have c0 : wc.cell? ⟨rb, 0, none⟩ = some (.int .u64 B) := H2.out.cell rfl
  have f0 := H2.out.frozen 0
  go_upto_region 3 with fail
  go_cut [] from 21 to 29 (fun wx => Hid (BStep 160 rb #[.int .u64 C] w wx))
  case first =>
    go_region
    all_goals go_wp2_with fail
    all_goals go_meet
    all_goals (have h := (H2.out.set 0 (.int .u64 C)).drew; simp at h; exact h)
  case rest =>
  have H3 : Hid (BStep 160 rb #[.int .u64 C] w wc) := hcut
  clear hcut c0 f0 H2
  have c0 : wc.cell? ⟨rb, 0, none⟩ = some (.int .u64 C) := H3.out.cell rfl
  go_wp2_with fail
  go_ret
  exact ⟨C, lC, rfl, H3.out⟩

theorem RK.step {w0 w w' : World} {blk off n rb : Nat} {ty : TypeId} {cs : Array Value} (h : RK w0 w blk off n) (hs : BStep ty rb cs w w') (hne : rb ≠ blk) (hge : w0.heap.size ≤ rb) : RK w0 w' blk off n := by
  have hb := hs.below 0 (Nat.zero_le _)
  refine ⟨fun t ht => ?_, fun t ht => ?_, fun j hj hn => (hs.other j (Nat.lt_of_lt_of_le hj h.size) (by omega)).trans (h.other j hj hn), Nat.le_trans h.size hs.size, hb.os.trans h.os, hb.tape.trans h.tape, hb.output.trans h.out⟩
  · obtain ⟨m, hm⟩ := h.cel t ht
    refine ⟨m, ?_⟩
    rw [World.cell?_of_block (w := w) (hs.other blk (lt_of_cell hm) (Ne.symm hne))]
    exact hm
  · obtain ⟨m, hm⟩ := h.cel t ht
    rw [World.frozen?_of_block (w := w) (hs.other blk (lt_of_cell hm) (Ne.symm hne))]
    exact h.frz t ht

set_option maxRecDepth 1000000 in
set_option maxHeartbeats 4000000 in
theorem break_calls (blk off n cap a b : Nat) (w0 w : World) (h : RK w0 w blk off n) (hab : a ≤ b) (hb : b ≤ n) (hn : n ≤ 1000000) :
    Calls Ybaf.prog 27 #[.slice (some ⟨blk, off, none⟩) n cap, .int .i64 a, .int .i64 b] w fun e w' => e = .returned (.tuple #[]) ∧ RK w0 w' blk off n := by
  have H0 : Hid (RK w0 w blk off n) := h
  obtain ⟨L, rfl⟩ : ∃ L, b = a + L := ⟨b - a, by omega⟩
  by_cases h8 : 8 ≤ L
  · obtain ⟨M, hM1, hM2, hM⟩ := pow_calls L (by omega) (by omega)
    have HP : Hid (∀ w, Calls Ybaf.prog 52 #[.int .i64 L] w fun e w' => e = .returned (.int .u64 (M : Int)) ∧ w' = w) := hM
    obtain ⟨rb, hrb⟩ : ∃ rb, w.heap.size = rb := ⟨_, rfl⟩
    have HRb : Hid (w.heap.size = rb) := hrb
    have hge : w0.heap.size ≤ rb := by have := h.size; omega
    have hne : rb ≠ blk := by have := h.lt (by omega); omega
    obtain ⟨w1, HW1⟩ : ∃ W : World, Hid (W = w.alloc (.cells #[.int .u64 (L : Int)] 160)) := ⟨_, rfl⟩
    have HK1 : Hid (RK w0 w1 blk off n ∧ w1.heap[rb]? = some (.cells #[.int .u64 (L : Int)] 160 (0, 0))) := by rw [HW1.out]; exact ⟨h.keep ((Below.refl _ _).alloc (Nat.le_refl _) _), new_at hrb.symm⟩
    have hL : (a : Int) + (L : Int) - (a : Int) = (L : Int) := by omega
    have HL : Hid ((a : Int) + (L : Int) - (a : Int) = (L : Int)) := hL
    clear h hM hrb hL
    go_enter Ybaf.func27, Ybaf.ntmps27
    go_upto_region 3 with fail
    rw [HL.out, ← HW1.out, HRb.out]
    clear HW1 H0
    go_wp2_with (go_at_call 52; refine (HP.out _).mono ?_; rintro e' w' ⟨rfl, rfl⟩)
    go_loopg [9, 10] 3 (fun g x y wr => ∃ (t X : Nat), t + g = 3 ∧ x = .int .i64 ((a + L / 4 * 2 - 1 + t : Nat) : Int) ∧ X < 18446744073709551616 ∧ Hid (RK w0 wr blk off n ∧ wr.heap[rb]? = some (.cells #[.int .u64 (X : Int)] 160 (0, 0))))
    case atStart => exact ⟨0, L, rfl, by congr 1; omega, by omega, HK1⟩
    case round =>
      clear HK1
      obtain ⟨t, X, ht, rfl, hX, HK⟩ := hrel
      by_cases h3 : t = 3
      · subst h3
        go_wp2_with fail
        go_end0
        exact ⟨rfl, HK.out.1⟩
      · obtain ⟨i, hi⟩ : ∃ i, a + L / 4 * 2 - 1 + t = i := ⟨_, rfl⟩
        have hle : (i : Int) ≤ (a : Int) + (L : Int) / 4 * 2 + 1 := by omega
        have hiL : i < a + L := by omega
        have HN : Hid (Calls Ybaf.prog 53 _ _ _) := next_calls rb X _ hX HK.out.2
        have HI : Hid (a + L / 4 * 2 - 1 + t = i) := hi
        rw [hi]
        clear hi
        go_upto_region 8 with (go_at_call 53; refine HN.out.mono ?_; rintro e' w2 ⟨Y, hY, rfl, hst⟩; have HS2 : Hid (BStep 160 rb #[.int .u64 (Y : Int)] _ w2) := hst; clear hst)
        obtain ⟨O, hO, hO1⟩ : ∃ O : Nat, bits .and .u64 (Y : Int) ((M : Int) - 1) = (O : Int) ∧ O ≤ M - 1 :=
          ⟨Y &&& (M - 1), by rw [show ((M : Int) - 1) = ((M - 1 : Nat) : Int) by omega, bits_and_u64_nat _ _ hY (by omega)], Nat.and_le_right⟩
        have hw64 : wrap64 (O : Int) = (O : Int) := by unfold wrap64; omega
        rw [hO, hw64]
        have HK2 : Hid (RK w0 w2 blk off n ∧ w2.heap[rb]? = some (.cells #[.int .u64 (Y : Int)] 160 (0, 0))) := ⟨HK.out.1.step HS2.out hne hge, HS2.out.par⟩
        clear hO hw64 HN HS2 HK
        go_upto_if 43 with fail
        go_cut [10] from 44 to 46 (fun c wx => (∃ o : Nat, c = .int .i64 o ∧ o < L) ∧ wx = w2)
        case first =>
          by_cases hLO : L ≤ O
          · go_wp2_with fail
            go_meet
            exact ⟨⟨O - L, by congr 1; omega, by omega⟩, rfl⟩
          · go_wp2_with fail
            go_meet
            exact ⟨⟨O, rfl, by omega⟩, rfl⟩
        case rest =>
        obtain ⟨⟨o, rfl, ho⟩, rfl⟩ := hcut
        obtain ⟨f, hcw, hfw⟩ := HK2.out.1.fam
        obtain ⟨u, hu⟩ := cell?_setCell_some (p := ⟨blk, off + i, none⟩) (x := .int .u64 (f (a + o))) (hcw (a + o) (by omega))
        go_upto_region 10 with fail
        go_region
        clear hu
        go_wp2_with fail
        go_roundg (gk - 1)
        case measure => omega
        case rel =>
          refine ⟨t + 1, Y, by omega, ?_, hY, ((HK2.out.1.set _ _).set _ _).drew, ?_⟩
          · rw [← Nat.add_assoc, HI.out]; rfl
          · exact ((Below.heap_setCell _ _ _ _ hne).trans (Below.heap_setCell _ _ _ _ hne)).trans HK2.out.2
  · clear h
    go_enter Ybaf.func27, Ybaf.ntmps27
    go_wp2_with fail
    go_end0
    exact ⟨rfl, H0.out⟩
end Go.Proofs.YbulkdxyaFmt
