/- The insertion sort that gives up, on a row, whatever it holds. -/
import Derived.Test.YbulkdxyaFmtSk
namespace Go.Proofs.YbulkdxyaFmt
open Go.RowKit
set_option linter.unusedSimpArgs false
set_option linter.unusedVariables false

/-- Some bool comes back. -/
def IsB (e : Ending) : Prop := ∃ r : Bool, e = .returned (.bool r)
set_option maxRecDepth 1000000 in
set_option maxHeartbeats 8000000 in
theorem pins_calls (blk off n cap a b : Nat) (w0 w : World) (h : RK w0 w blk off n) (hab : a < b) (hb : b ≤ n) (hn : n ≤ 1000000) :
    Calls Ybaf.prog 30 #[.slice (some ⟨blk, off, none⟩) n cap, .int .i64 a, .int .i64 b] w fun e w' => IsB e ∧ RK w0 w' blk off n := by
  have H0 : Hid (RK w0 w blk off n) := h
  clear h
  go_enter Ybaf.func30, Ybaf.ntmps30
  go_wp2_with fail
  go_loopg [7, 8, 9, 10] 5 (fun g x y z u wr => ∃ i j : Nat, j + g = 5 ∧ a < i ∧ i ≤ b ∧ x = .int .i64 i ∧ y = .int .i64 j ∧ Hid (RK w0 wr blk off n))
  case atStart => exact ⟨a + 1, 0, rfl, by omega, by omega, by go_num, rfl, H0⟩
  case round =>
    clear H0
    obtain ⟨i, j, hg, hi, hib, rfl, rfl, HK⟩ := hrel
    by_cases h5 : j < 5
    · have h5' : (j : Int) < 5 := by omega
      go_upto_block 2 with fail
      go_cut [7] from 17 to 34 (fun x wx => ∃ i : Nat, x = .int .i64 i ∧ a < i ∧ i ≤ b ∧ Hid (RK w0 wx blk off n))
      case first =>
        go_wp2_with fail
        go_loopg [7] (b - i) (fun g x wr => ∃ i : Nat, g = b - i ∧ a < i ∧ i ≤ b ∧ x = .int .i64 i ∧ Hid (RK w0 wr blk off n))
        case atStart => exact ⟨i, rfl, hi, hib, rfl, HK⟩
        case round =>
          clear HK hi hib
          obtain ⟨i2, rfl, hi, hib, rfl, HK⟩ := hrel
          by_cases hlt : i2 < b
          · obtain ⟨k, rfl⟩ : ∃ k, i2 = k + 1 := ⟨i2 - 1, by omega⟩
            have hlt' : (k : Int) + 1 < (b : Int) := by omega
            obtain ⟨f, hcw, hfw⟩ := HK.out.fam
            by_cases hl : f (k + 1) < f k
            · go_upto_region 5 with fail
              go_quiet ((go_at_call 31; exact Calls.quiet_of_same (less_calls _ _ _)))
              go_wp2_with fail
              go_meet
              exact ⟨k + 1, by go_num, hi, hib, HK.out.drewN _⟩
            · go_upto_region 5 with fail
              go_quiet ((go_at_call 31; exact Calls.quiet_of_same (less_calls _ _ _)))
              go_wp2_with fail
              go_roundg (b - (k + 1 + 1))
              case measure => omega
              case rel => exact ⟨k + 1 + 1, rfl, by omega, by omega, by go_num, HK.out.drewN _⟩
          · have hlt' : ¬ (i2 : Int) < (b : Int) := by omega
            go_upto_region 5 with fail
            go_quiet ((go_at_call 31; exact Calls.quiet_of_same (less_calls _ _ _)))
            go_wp2_with fail
            go_meet
            exact ⟨i2, rfl, hi, hib, HK.out.drewN _⟩
      case rest =>
      clear HK hi hib
      obtain ⟨i2, rfl, hi, hib, HK⟩ := hcut
      by_cases heq : i2 = b
      · subst heq
        go_wp2_with fail
        go_ret
        exact ⟨⟨true, rfl⟩, HK.out⟩
      · have heq' : ((i2 : Int) == (b : Int)) = false := by simp; omega
        by_cases h50 : b - a < 50
        · have h50' : (b : Int) - (a : Int) < 50 := by omega
          go_wp2_with fail
          go_ret
          exact ⟨⟨false, rfl⟩, HK.out⟩
        · have h50' : ¬ (b : Int) - (a : Int) < 50 := by omega
          obtain ⟨k, rfl⟩ : ∃ k, i2 = k + 1 := ⟨i2 - 1, by omega⟩
          obtain ⟨f, hcw, hfw⟩ := HK.out.fam
          go_upto_region 11 with fail
          go_region
          have HK2 : Hid (RK w0 (World.drew _) blk off n) := ((HK.out.set (off + (k + 1)) (f k)).set (off + k) (f (k + 1))).drew
          clear hcw hfw HK
          generalize World.drew _ = wr2 at HK2 ⊢
          go_upto_if 61 with fail
          go_cut [9] from 35 to 94 (fun x wx => Hid (RK w0 wx blk off n))
          case first =>
            by_cases h2 : 2 ≤ k + 1 - a
            · have h2' : 2 ≤ (k : Int) + 1 - (a : Int) := by omega
              go_wp2_with fail
              go_loopg [9] k (fun g x wr => ∃ m : Nat, m = g ∧ m ≤ k ∧ x = .int .i64 m ∧ Hid (RK w0 wr blk off n))
              case atStart => exact ⟨k, rfl, Nat.le_refl _, by go_num, HK2⟩
              case round =>
                clear HK2
                obtain ⟨m, rfl, hm, rfl, HK⟩ := hrel
                by_cases hm0 : m = 0
                · subst hm0
                  go_wp2_with fail
                  go_meet
                  exact HK
                · obtain ⟨q, rfl⟩ : ∃ q, m = q + 1 := ⟨m - 1, by omega⟩
                  obtain ⟨f, hcw, hfw⟩ := HK.out.fam
                  by_cases hl : f (q + 1) < f q
                  · go_upto_region 16 with fail
                    go_quiet ((go_at_call 31; exact Calls.quiet_of_same (less_calls _ _ _)))
                    have HK3 : Hid (RK w0 (World.drewN _ nq) blk off n) := HK.out.drewN nq
                    generalize World.drewN _ nq = wr3 at HK3 ⊢
                    clear hcw hfw HK
                    obtain ⟨f2, hcw, hfw⟩ := HK3.out.fam
                    go_upto_region 17 with fail
                    go_region
                    go_wp2_with fail
                    go_roundg q
                    case measure => omega
                    case rel => exact ⟨q, rfl, by omega, by go_num, ((HK3.out.set _ _).set _ _).drew⟩
                  · go_upto_region 16 with fail
                    go_quiet ((go_at_call 31; exact Calls.quiet_of_same (less_calls _ _ _)))
                    go_wp2_with fail
                    go_meet
                    exact HK.out.drewN _
            · have h2' : ¬ 2 ≤ (k : Int) + 1 - (a : Int) := by omega
              go_wp2_with fail
              go_meet
              exact HK2
          case rest =>
          have HK : Hid (RK w0 wc blk off n) := hcut
          clear hcut HK2
          by_cases h2 : 2 ≤ b - (k + 1)
          · have h2' : 2 ≤ (b : Int) - ((k : Int) + 1) := by omega
            go_wp2_with fail
            go_loopg [10] (b - (k + 2)) (fun g x wr => ∃ m : Nat, g = b - m ∧ k + 2 ≤ m ∧ m ≤ b ∧ x = .int .i64 m ∧ Hid (RK w0 wr blk off n))
            case atStart => exact ⟨k + 2, rfl, Nat.le_refl _, by omega, by go_num, HK⟩
            case round =>
              clear HK
              obtain ⟨m, rfl, hm, hmb, rfl, HK⟩ := hrel
              by_cases hmb' : m < b
              · obtain ⟨q, rfl⟩ : ∃ q, m = q + 1 := ⟨m - 1, by omega⟩
                have hlt' : (q : Int) + 1 < (b : Int) := by omega
                obtain ⟨f, hcw, hfw⟩ := HK.out.fam
                by_cases hl : f (q + 1) < f q
                · go_upto_region 22 with fail
                  go_quiet ((go_at_call 31; exact Calls.quiet_of_same (less_calls _ _ _)))
                  have HK3 : Hid (RK w0 (World.drewN _ nq) blk off n) := HK.out.drewN nq
                  generalize World.drewN _ nq = wr3 at HK3 ⊢
                  clear hcw hfw HK
                  obtain ⟨f2, hcw, hfw⟩ := HK3.out.fam
                  go_upto_region 23 with fail
                  go_region
                  go_wp2_with fail
                  go_roundg (b - (q + 1 + 1))
                  case measure => omega
                  case rel => exact ⟨q + 1 + 1, rfl, by omega, by omega, by go_num, ((HK3.out.set _ _).set _ _).drew⟩
                · go_upto_region 22 with fail
                  go_quiet ((go_at_call 31; exact Calls.quiet_of_same (less_calls _ _ _)))
                  go_wp2_with fail
                  go_roundg (4 - j)
                  case measure => omega
                  case rel => exact ⟨k + 1, j + 1, by omega, hi, hib, by go_num, by go_num, HK.out.drewN _⟩
              · have hlt' : ¬ (m : Int) < (b : Int) := by omega
                go_wp2_with fail
                go_roundg (4 - j)
                case measure => omega
                case rel => exact ⟨k + 1, j + 1, by omega, hi, hib, by go_num, by go_num, HK⟩
          · have h2' : ¬ 2 ≤ (b : Int) - ((k : Int) + 1) := by omega
            go_wp2_with fail
            go_roundg (4 - j)
            case measure => omega
            case rel => exact ⟨k + 1, j + 1, by omega, hi, hib, by go_num, by go_num, HK⟩
    · have h5' : ¬ (j : Int) < 5 := by omega
      go_wp2_with fail
      go_ret
      exact ⟨⟨false, rfl⟩, HK.out⟩
end Go.Proofs.YbulkdxyaFmt
