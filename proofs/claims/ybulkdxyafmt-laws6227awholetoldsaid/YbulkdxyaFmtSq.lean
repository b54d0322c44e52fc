/- pdqsort and slices.Sort on a row, whatever it holds: it ends, and the row still holds its integers. -/
import Derived.Test.YbulkdxyaFmtSh
import Derived.Test.YbulkdxyaFmtSp
import Derived.Test.YbulkdxyaFmtSe
import Derived.Test.YbulkdxyaFmtSt
namespace Go.Proofs.YbulkdxyaFmt
open Go.RowKit
set_option linter.unusedSimpArgs false
set_option linter.unusedVariables false

/-- Some bool. -/
def BV (v : Value) : Prop := ∃ r : Bool, v = .bool r
set_option maxRecDepth 1000000 in
set_option maxHeartbeats 8000000 in
theorem pdq_calls : ∀ (N blk off n cap a b limit : Nat) (w0 w : World), b - a < N → RK w0 w blk off n → a ≤ b → b ≤ n → n ≤ 1000000 → limit ≤ 64 →
    Calls Ybaf.prog 16 #[.slice (some ⟨blk, off, none⟩) n cap, .int .i64 a, .int .i64 b, .int .i64 limit] w fun e w' => e = .returned (.tuple #[]) ∧ RK w0 w' blk off n := by
  intro N
  induction N with
  | zero => intro blk off n cap a b limit w0 w h; omega
  | succ N ih =>
    intro blk off n cap a0 b0 limit0 w0 w hN h hab0 hb0 hn hl0
    have H0 : Hid (RK w0 w blk off n) := h
    have IH : Hid (∀ (a b limit : Nat) (w : World), b - a < N → RK w0 w blk off n → a ≤ b → b ≤ n → limit ≤ 64 → Calls Ybaf.prog 16 #[.slice (some ⟨blk, off, none⟩) n cap, .int .i64 a, .int .i64 b, .int .i64 limit] w fun e w' => e = .returned (.tuple #[]) ∧ RK w0 w' blk off n) := fun a b limit w h1 h2 h3 h4 h5 => ih blk off n cap a b limit w0 w h1 h2 h3 h4 hn h5
    clear h ih
    go_enter Ybaf.func16, Ybaf.ntmps16
    go_wp2_with fail
    go_loopg [1, 2, 3, 8, 9] (b0 - a0) (fun g x y z u v wr => ∃ a b l : Nat, b - a = g ∧ a ≤ b ∧ b ≤ n ∧ b - a < N + 1 ∧ l ≤ 64 ∧ x = .int .i64 a ∧ y = .int .i64 b ∧ z = .int .i64 l ∧ BV u ∧ BV v ∧ Hid (RK w0 wr blk off n))
    case atStart => exact ⟨a0, b0, limit0, rfl, hab0, hb0, hN, hl0, rfl, rfl, rfl, ⟨_, rfl⟩, ⟨_, rfl⟩, H0⟩
    case round =>
      clear H0 hN hab0 hb0 hl0
      obtain ⟨a, b, l, rfl, hab, hb, hN, hl, rfl, rfl, rfl, ⟨B1, rfl⟩, ⟨B2, rfl⟩, HK⟩ := hrel
      by_cases h12 : b - a ≤ 12
      · have h12' : (b : Int) - (a : Int) ≤ 12 := by omega
        go_wp2_with (go_at_call 25; refine (insertion_calls blk off n cap a b w0 _ HK.out hab hb hn).mono ?_; rintro e' w2 ⟨rfl, hk⟩; have HK2 : Hid (RK w0 w2 blk off n) := hk; clear hk)
        refine bodyPost_ret (results_none rfl _ _ _) rfl ?_
        exact ⟨rfl, HK2.out⟩
      have h12' : ¬ (b : Int) - (a : Int) ≤ 12 := by omega
      by_cases hl0 : l = 0
      · subst hl0
        go_wp2_with (go_at_call 26; refine (heap_calls blk off n cap a b w0 _ HK.out hab hb hn).mono ?_; rintro e' w2 ⟨rfl, hk⟩; have HK2 : Hid (RK w0 w2 blk off n) := hk; clear hk)
        refine bodyPost_ret (results_none rfl _ _ _) rfl ?_
        exact ⟨rfl, HK2.out⟩
      have hl0' : ((l : Int) == 0) = false := by simp; omega
      go_upto_if 35 with fail
      go_cut [3] from 19 to 41 (fun x wx => ∃ l : Nat, x = .int .i64 l ∧ l ≤ 64 ∧ Hid (RK w0 wx blk off n))
      case first =>
        cases B1 with
        | true =>
          go_wp2_with fail
          go_meet
          exact ⟨l, rfl, hl, HK⟩
        | false =>
          go_wp2_with (go_at_call 27; refine (break_calls blk off n cap a b w0 _ HK.out hab hb hn).mono ?_; rintro e' w2 ⟨rfl, hk⟩; have HK2 : Hid (RK w0 w2 blk off n) := hk; clear hk)
          go_meet
          exact ⟨l - 1, by congr 1; omega, by omega, HK2⟩
      case rest =>
      clear HK hl hl0 hl0'
      obtain ⟨l2, rfl, hl, HK⟩ := hcut
      have HP : Hid (Calls Ybaf.prog 28 _ wc _) := pivot_calls blk off n cap a b w0 wc HK.out (by omega) hb hn
      go_upto_if 50 with (go_at_call 28; refine HP.out.mono ?_; rintro e' w2 ⟨p, hint, rfl, hp, hh, hk⟩; have HK2 : Hid (RK w0 w2 blk off n) := hk; clear hk)
      clear HP HK
      go_cut [11, 12] from 42 to 60 (fun x y wx => ∃ p h : Nat, x = .int .i64 p ∧ y = .int .i64 h ∧ a ≤ p ∧ p < b ∧ Hid (RK w0 wx blk off n))
      case first =>
        by_cases h2 : hint = 2
        · subst h2
          go_wp2_with (go_at_call 29; refine (reverse_calls blk off n cap a b w0 _ HK2.out hab hb hn).mono ?_; rintro e' w3 ⟨rfl, hk⟩; have HK3 : Hid (RK w0 w3 blk off n) := hk; clear hk)
          go_meet
          exact ⟨b - 1 - (p - a), 1, by congr 1; omega, rfl, by omega, by omega, HK3⟩
        · have h2' : ((hint : Int) == 2) = false := by simp; omega
          go_wp2_with fail
          go_meet
          exact ⟨p, hint, rfl, rfl, hp.1, hp.2, HK2⟩
      case rest =>
      clear HK2 hp hh
      obtain ⟨p2, h2, rfl, rfl, hp1, hp2, HK⟩ := hcut
      go_upto_region 15 with fail
      go_cut [68] from 61 to 67 (fun c wx => BV c ∧ wx = wc)
      case first =>
        cases B1 with
        | false =>
          go_wp2_with fail
          go_meet
          exact ⟨⟨_, rfl⟩, rfl⟩
        | true =>
          cases B2 with
          | false =>
            go_wp2_with fail
            go_meet
            exact ⟨⟨_, rfl⟩, rfl⟩
          | true =>
            go_wp2_with fail
            go_meet
            exact ⟨⟨_, rfl⟩, rfl⟩
      case rest =>
      obtain ⟨⟨r, rfl⟩, rfl⟩ := hcut
      go_upto_if 68 with fail
      go_cut [] from 69 to 72 (fun wx => Hid (RK w0 wx blk off n))
      case first =>
        cases r with
        | false =>
          go_wp2_with fail
          go_meet
          exact HK
        | true =>
          have HI : Hid (Calls Ybaf.prog 30 _ _ _) := pins_calls blk off n cap a b w0 _ HK.out (by omega) hb hn
          go_upto_if 72 with (go_at_call 30; refine HI.out.mono ?_; rintro e' w3 ⟨⟨r3, rfl⟩, hk⟩; have HK3 : Hid (RK w0 w3 blk off n) := hk; clear hk)
          cases r3 with
          | true =>
            go_wp2_with fail
            refine bodyPost_ret (results_none rfl _ _ _) rfl ?_
            exact ⟨rfl, HK3.out⟩
          | false =>
            go_wp2_with fail
            go_meet
            exact HK3
      case rest =>
      clear HK
      have HK : Hid (RK w0 wc blk off n) := hcut
      clear hcut
      go_upto_region 17 with fail
      go_cut [87] from 73 to 86 (fun c wx => BV c ∧ Hid (RK w0 wx blk off n))
      case first =>
        obtain ⟨f, hcw, hfw⟩ := HK.out.fam
        by_cases ha0 : a = 0
        · subst ha0
          go_quiet ((go_at_call 31; exact Calls.quiet_of_same (less_calls _ _ _)))
          go_wp2_with fail
          go_meet
          exact ⟨⟨_, rfl⟩, HK.out.drewN _⟩
        · obtain ⟨q, rfl⟩ : ∃ q, a = q + 1 := ⟨a - 1, by omega⟩
          have ha' : (0 : Int) < (q : Int) + 1 := by omega
          go_quiet ((go_at_call 31; exact Calls.quiet_of_same (less_calls _ _ _)))
          go_wp2_with fail
          go_meet
          exact ⟨⟨_, rfl⟩, HK.out.drewN _⟩
      case rest =>
      clear HK
      obtain ⟨⟨r2, rfl⟩, HK⟩ := hcut
      cases r2 with
      | true =>
        have HE : Hid (Calls Ybaf.prog 32 _ _ _) := part_eq_calls blk off n cap a b p2 w0 _ HK.out hp1 hp2 hb hn
        go_wp2_with (go_at_call 32; refine HE.out.mono ?_; rintro e' w3 ⟨m, rfl, hm1, hm2, hk⟩; have HK3 : Hid (RK w0 w3 blk off n) := hk; clear hk)
        go_roundg (b - m)
        case measure => omega
        case rel => exact ⟨m, b, l2, rfl, by omega, hb, by omega, hl, rfl, rfl, rfl, ⟨_, rfl⟩, ⟨_, rfl⟩, HK3⟩
      | false =>
        have HE : Hid (Calls Ybaf.prog 33 _ _ _) := part_calls blk off n cap a b p2 w0 _ HK.out hp1 hp2 hb hn
        go_upto_region 21 with (go_at_call 33; refine HE.out.mono ?_; rintro e' w3 ⟨⟨m, r3, rfl, hm1, hm2⟩, hk⟩; have HK3 : Hid (RK w0 w3 blk off n) := hk; clear hk)
        clear HE HK
        by_cases hlr : m - a < b - m
        · have hlr' : (m : Int) - (a : Int) < (b : Int) - (m : Int) := by omega
          have HR : Hid (Calls Ybaf.prog 16 _ w3 _) := IH.out a m l2 w3 (by omega) HK3.out hm1 (by omega) hl
          go_wp2_with (go_at_call 16; refine HR.out.mono ?_; rintro e' w4 ⟨rfl, hk⟩; have HK4 : Hid (RK w0 w4 blk off n) := hk; clear hk)
          go_roundg (b - (m + 1))
          case measure => omega
          case rel => exact ⟨m + 1, b, l2, rfl, by omega, hb, by omega, hl, by go_num, rfl, rfl, ⟨_, rfl⟩, ⟨_, rfl⟩, HK4⟩
        · have hlr' : ¬ (m : Int) - (a : Int) < (b : Int) - (m : Int) := by omega
          have HR : Hid (Calls Ybaf.prog 16 #[.slice (some ⟨blk, off, none⟩) n cap, .int .i64 ((m : Int) + 1), .int .i64 b, .int .i64 l2] w3 _) := IH.out (m + 1) b l2 w3 (by omega) HK3.out (by omega) hb hl
          go_wp2_with (go_at_call 16; refine HR.out.mono ?_; rintro e' w4 ⟨rfl, hk⟩; have HK4 : Hid (RK w0 w4 blk off n) := hk; clear hk)
          go_roundg (m - a)
          case measure => omega
          case rel => exact ⟨a, m, l2, rfl, by omega, by omega, by omega, hl, rfl, rfl, rfl, ⟨_, rfl⟩, ⟨_, rfl⟩, HK4⟩

set_option maxRecDepth 100000 in
/-- slices.Sort at uint64: it ends; the row still holds its integers. -/
theorem sort_calls (blk off n cap : Nat) (w0 w : World) (h : RK w0 w blk off n) (hn : n ≤ 1000000) :
    Calls Ybaf.prog 6 #[.slice (some ⟨blk, off, none⟩) n cap] w fun e w' => e = .returned (.tuple #[]) ∧ RK w0 w' blk off n := by
  obtain ⟨l, hl, _, hc⟩ := len_calls n hn
  have HC : Hid (∀ w, Calls Ybaf.prog 17 #[.int .u64 n] w fun e w' => e = .returned (.int .i64 (l : Int)) ∧ w' = w) := hc
  have HP : Hid (Calls Ybaf.prog 16 #[.slice (some ⟨blk, off, none⟩) n cap, .int .i64 0, .int .i64 n, .int .i64 l] w _) := pdq_calls (n + 1) blk off n cap 0 n l w0 w (by omega) h (by omega) (Nat.le_refl _) hn (by omega)
  clear h hc
  go_enter Ybaf.func6, Ybaf.ntmps6
  go_wp2_with (first
    | (go_at_call 17; refine (HC.out _).mono ?_; rintro e' w' ⟨rfl, rfl⟩)
    | (go_at_call 16; refine HP.out.mono ?_; rintro e' w2 ⟨rfl, hk⟩; have HK : Hid (RK w0 w2 blk off n) := hk; clear hk))
  go_end0
  exact ⟨rfl, HK.out⟩
end Go.Proofs.YbulkdxyaFmt
