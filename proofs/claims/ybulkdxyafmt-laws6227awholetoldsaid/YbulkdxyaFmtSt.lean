/- partition on a row, whatever it holds. -/
import Derived.Test.YbulkdxyaFmtSi
namespace Go.Proofs.YbulkdxyaFmt
open Go.RowKit
set_option linter.unusedSimpArgs false
set_option linter.unusedVariables false

/-- A place of the row, and some bool. -/
def IsPB (lo hi : Nat) (e : Ending) : Prop := ∃ (m : Nat) (r : Bool), e = .returned (.tuple #[.int .i64 m, .bool r]) ∧ lo ≤ m ∧ m < hi
set_option maxRecDepth 1000000 in
set_option maxHeartbeats 8000000 in
theorem part_calls (blk off n cap a b p : Nat) (w0 w : World) (h : RK w0 w blk off n) (hap : a ≤ p) (hpb : p < b) (hb : b ≤ n) (hn : n ≤ 1000000) :
    Calls Ybaf.prog 33 #[.slice (some ⟨blk, off, none⟩) n cap, .int .i64 a, .int .i64 b, .int .i64 p] w fun e w' => IsPB a b e ∧ RK w0 w' blk off n := by
  have H0 : Hid (RK w0 w blk off n) := h
  obtain ⟨f, hcw, hfw⟩ := h.fam
  obtain ⟨u, hu⟩ := cell?_setCell_some (p := ⟨blk, off + a, none⟩) (x := .int .u64 (f p)) (hcw p (by omega))
  clear h
  go_enter Ybaf.func33, Ybaf.ntmps33
  go_upto_region 1 with fail
  go_region
  have HK : Hid (RK w0 (World.drew _) blk off n) := ((H0.out.set (off + a) (f p)).set (off + p) (f a)).drew
  clear hcw hfw H0 hu
  generalize World.drew _ = wr2 at HK ⊢
  go_upto_region 2 with fail
  go_cut [10, 11] from 26 to 29 (fun x y wx => (∃ i j : Nat, x = .int .i64 i ∧ y = .int .i64 j ∧ a < i ∧ i ≤ b ∧ a ≤ j ∧ j < b) ∧ wx = wr2)
  case first =>
    go_wp2_with fail
    go_meet
    exact ⟨⟨a + 1, b - 1, by go_num, by congr 1; omega, by omega, by omega, by omega, by omega⟩, rfl⟩
  case rest =>
  obtain ⟨⟨i, j, rfl, rfl, hi, hib, hj, hjb⟩, rfl⟩ := hcut
  go_upto_block 0 with fail
  go_cut [10] from 30 to 45 (fun x wx => ∃ i2 : Nat, x = .int .i64 i2 ∧ i ≤ i2 ∧ i2 ≤ b ∧ Hid (RK w0 wx blk off n))
  case first =>
    go_wp2_with fail
    go_loopg [10] (j + 1 - i) (fun g x wr => ∃ i2 : Nat, g = j + 1 - i2 ∧ i ≤ i2 ∧ i2 ≤ b ∧ x = .int .i64 i2 ∧ Hid (RK w0 wr blk off n))
    case atStart => exact ⟨i, rfl, Nat.le_refl _, hib, rfl, HK⟩
    case round =>
      clear HK
      obtain ⟨i2, rfl, hi2, hib2, rfl, HK⟩ := hrel
      by_cases hij : i2 ≤ j
      · have hij' : (i2 : Int) ≤ (j : Int) := by omega
        obtain ⟨f, hcw, hfw⟩ := HK.out.fam
        by_cases hl : f i2 < f a
        · go_upto_region 3 with fail
          go_quiet ((go_at_call 31; exact Calls.quiet_of_same (less_calls _ _ _)))
          go_wp2_with fail
          go_roundg (j + 1 - (i2 + 1))
          case measure => omega
          case rel => exact ⟨i2 + 1, rfl, by omega, by omega, by go_num, HK.out.drewN _⟩
        · go_upto_region 3 with fail
          go_quiet ((go_at_call 31; exact Calls.quiet_of_same (less_calls _ _ _)))
          go_wp2_with fail
          go_meet
          exact ⟨i2, rfl, hi2, hib2, HK.out.drewN _⟩
      · have hij' : ¬ (i2 : Int) ≤ (j : Int) := by omega
        go_upto_region 3 with fail
        go_quiet ((go_at_call 31; exact Calls.quiet_of_same (less_calls _ _ _)))
        go_wp2_with fail
        go_meet
        exact ⟨i2, rfl, hi2, hib2, HK.out.drewN _⟩
  case rest =>
  clear HK
  obtain ⟨i2, rfl, hi2, hib2, HK⟩ := hcut
  go_upto_block 2 with fail
  go_cut [11] from 46 to 62 (fun x wx => ∃ j2 : Nat, x = .int .i64 j2 ∧ a ≤ j2 ∧ j2 ≤ j ∧ Hid (RK w0 wx blk off n))
  case first =>
    go_wp2_with fail
    go_loopg [11] (j + 1 - i2) (fun g x wr => ∃ j2 : Nat, g = j2 + 1 - i2 ∧ a ≤ j2 ∧ j2 ≤ j ∧ x = .int .i64 j2 ∧ Hid (RK w0 wr blk off n))
    case atStart => exact ⟨j, rfl, hj, Nat.le_refl _, rfl, HK⟩
    case round =>
      clear HK
      obtain ⟨j2, rfl, hj2, hjj, rfl, HK⟩ := hrel
      by_cases hij : i2 ≤ j2
      · obtain ⟨q, rfl⟩ : ∃ q, j2 = q + 1 := ⟨j2 - 1, by omega⟩
        have hij' : (i2 : Int) ≤ (q : Int) + 1 := by omega
        obtain ⟨f, hcw, hfw⟩ := HK.out.fam
        by_cases hl : f (q + 1) < f a
        · go_upto_region 5 with fail
          go_quiet ((go_at_call 31; exact Calls.quiet_of_same (less_calls _ _ _)))
          go_wp2_with fail
          go_meet
          exact ⟨q + 1, by go_num, hj2, hjj, HK.out.drewN _⟩
        · go_upto_region 5 with fail
          go_quiet ((go_at_call 31; exact Calls.quiet_of_same (less_calls _ _ _)))
          go_wp2_with fail
          go_roundg (q + 1 - i2)
          case measure => omega
          case rel => exact ⟨q, rfl, by omega, by omega, by go_num, HK.out.drewN _⟩
      · have hij' : ¬ (i2 : Int) ≤ (j2 : Int) := by omega
        go_upto_region 5 with fail
        go_quiet ((go_at_call 31; exact Calls.quiet_of_same (less_calls _ _ _)))
        go_wp2_with fail
        go_meet
        exact ⟨j2, rfl, hj2, hjj, HK.out.drewN _⟩
  case rest =>
  clear HK
  obtain ⟨j2, rfl, hj2, hjj, HK⟩ := hcut
  by_cases hgt : j2 < i2
  · have hgt' : (j2 : Int) < (i2 : Int) := by omega
    obtain ⟨f, hcw, hfw⟩ := HK.out.fam
    obtain ⟨u, hu⟩ := cell?_setCell_some (p := ⟨blk, off + j2, none⟩) (x := .int .u64 (f a)) (hcw a (by omega))
    go_upto_region 8 with fail
    go_region
    clear hu
    go_wp2_with fail
    go_ret2
    exact ⟨⟨j2, true, rfl, by omega, by omega⟩, ((HK.out.set _ _).set _ _).drew⟩
  · obtain ⟨q, rfl⟩ : ∃ q, j2 = q + 1 := ⟨j2 - 1, by omega⟩
    have hgt' : ¬ (q : Int) + 1 < (i2 : Int) := by omega
    obtain ⟨f, hcw, hfw⟩ := HK.out.fam
    obtain ⟨u, hu⟩ := cell?_setCell_some (p := ⟨blk, off + i2, none⟩) (x := .int .u64 (f (q + 1))) (hcw (q + 1) (by omega))
    go_upto_region 10 with fail
    go_region
    have HK2 : Hid (RK w0 (World.drew _) blk off n) := ((HK.out.set (off + i2) (f (q + 1))).set (off + (q + 1)) (f i2)).drew
    clear hcw hfw hu HK
    generalize World.drew _ = wr3 at HK2 ⊢
    go_upto_block 4 with fail
    go_cut [10, 11] from 63 to 152 (fun x y wx => ∃ j : Nat, y = .int .i64 j ∧ a ≤ j ∧ j < b ∧ Hid (RK w0 wx blk off n))
    case first =>
      go_wp2_with fail
      go_loopg [10, 11] (q + 1 - (i2 + 1)) (fun g x y wr => ∃ i j : Nat, g = j + 1 - i ∧ a < i ∧ i ≤ b ∧ a ≤ j ∧ j < b ∧ x = .int .i64 i ∧ y = .int .i64 j ∧ Hid (RK w0 wr blk off n))
      case atStart => exact ⟨i2 + 1, q, rfl, by omega, by omega, by omega, by omega, by go_num, by go_num, HK2⟩
      case round =>
        clear HK2 hgt hgt' hi hib hj hjb hi2 hib2 hj2 hjj
        obtain ⟨i, j, rfl, hi, hib, hj, hjb, rfl, rfl, HK⟩ := hrel
        go_upto_block 6 with fail
        go_cut [10] from 99 to 114 (fun x wx => ∃ i2 : Nat, x = .int .i64 i2 ∧ i ≤ i2 ∧ i2 ≤ b ∧ Hid (RK w0 wx blk off n))
        case first =>
          go_wp2_with fail
          go_loopg [10] (j + 1 - i) (fun g x wr => ∃ i2 : Nat, g = j + 1 - i2 ∧ i ≤ i2 ∧ i2 ≤ b ∧ x = .int .i64 i2 ∧ Hid (RK w0 wr blk off n))
          case atStart => exact ⟨i, rfl, Nat.le_refl _, hib, rfl, HK⟩
          case round =>
            clear HK
            obtain ⟨i2, rfl, hi2, hib2, rfl, HK⟩ := hrel
            by_cases hij : i2 ≤ j
            · have hij' : (i2 : Int) ≤ (j : Int) := by omega
              obtain ⟨f, hcw, hfw⟩ := HK.out.fam
              by_cases hl : f i2 < f a
              · go_upto_region 13 with fail
                go_quiet ((go_at_call 31; exact Calls.quiet_of_same (less_calls _ _ _)))
                go_wp2_with fail
                go_roundg (j + 1 - (i2 + 1))
                case measure => omega
                case rel => exact ⟨i2 + 1, rfl, by omega, by omega, by go_num, HK.out.drewN _⟩
              · go_upto_region 13 with fail
                go_quiet ((go_at_call 31; exact Calls.quiet_of_same (less_calls _ _ _)))
                go_wp2_with fail
                go_meet
                exact ⟨i2, rfl, hi2, hib2, HK.out.drewN _⟩
            · have hij' : ¬ (i2 : Int) ≤ (j : Int) := by omega
              go_upto_region 13 with fail
              go_quiet ((go_at_call 31; exact Calls.quiet_of_same (less_calls _ _ _)))
              go_wp2_with fail
              go_meet
              exact ⟨i2, rfl, hi2, hib2, HK.out.drewN _⟩
        case rest =>
        clear HK
        obtain ⟨i2, rfl, hi2, hib2, HK⟩ := hcut
        go_upto_block 8 with fail
        go_cut [11] from 115 to 131 (fun x wx => ∃ j2 : Nat, x = .int .i64 j2 ∧ a ≤ j2 ∧ j2 ≤ j ∧ Hid (RK w0 wx blk off n))
        case first =>
          go_wp2_with fail
          go_loopg [11] (j + 1 - i2) (fun g x wr => ∃ j2 : Nat, g = j2 + 1 - i2 ∧ a ≤ j2 ∧ j2 ≤ j ∧ x = .int .i64 j2 ∧ Hid (RK w0 wr blk off n))
          case atStart => exact ⟨j, rfl, hj, Nat.le_refl _, rfl, HK⟩
          case round =>
            clear HK
            obtain ⟨j2, rfl, hj2, hjj, rfl, HK⟩ := hrel
            by_cases hij : i2 ≤ j2
            · obtain ⟨q, rfl⟩ : ∃ q, j2 = q + 1 := ⟨j2 - 1, by omega⟩
              have hij' : (i2 : Int) ≤ (q : Int) + 1 := by omega
              obtain ⟨f, hcw, hfw⟩ := HK.out.fam
              by_cases hl : f (q + 1) < f a
              · go_upto_region 15 with fail
                go_quiet ((go_at_call 31; exact Calls.quiet_of_same (less_calls _ _ _)))
                go_wp2_with fail
                go_meet
                exact ⟨q + 1, by go_num, hj2, hjj, HK.out.drewN _⟩
              · go_upto_region 15 with fail
                go_quiet ((go_at_call 31; exact Calls.quiet_of_same (less_calls _ _ _)))
                go_wp2_with fail
                go_roundg (q + 1 - i2)
                case measure => omega
                case rel => exact ⟨q, rfl, by omega, by omega, by go_num, HK.out.drewN _⟩
            · have hij' : ¬ (i2 : Int) ≤ (j2 : Int) := by omega
              go_upto_region 15 with fail
              go_quiet ((go_at_call 31; exact Calls.quiet_of_same (less_calls _ _ _)))
              go_wp2_with fail
              go_meet
              exact ⟨j2, rfl, hj2, hjj, HK.out.drewN _⟩
        case rest =>
        clear HK
        obtain ⟨j2, rfl, hj2, hjj, HK⟩ := hcut
        by_cases hgt : j2 < i2
        · have hgt' : (j2 : Int) < (i2 : Int) := by omega
          go_wp2_with fail
          go_meet
          exact ⟨j2, rfl, by omega, by omega, HK⟩
        · obtain ⟨q, rfl⟩ : ∃ q, j2 = q + 1 := ⟨j2 - 1, by omega⟩
          have hgt' : ¬ (q : Int) + 1 < (i2 : Int) := by omega
          obtain ⟨f, hcw, hfw⟩ := HK.out.fam
          obtain ⟨u, hu⟩ := cell?_setCell_some (p := ⟨blk, off + i2, none⟩) (x := .int .u64 (f (q + 1))) (hcw (q + 1) (by omega))
          go_upto_region 18 with fail
          go_region
          clear hu
          go_wp2_with fail
          go_roundg (q + 1 - (i2 + 1))
          case measure => omega
          case rel => exact ⟨i2 + 1, q, rfl, by omega, by omega, by omega, by omega, by go_num, by go_num, ((HK.out.set _ _).set _ _).drew⟩
    case rest =>
    clear HK2 hgt hgt' hi hib hj hjb hi2 hib2 hj2 hjj
    obtain ⟨j3, rfl, hj3, hjb3, HK⟩ := hcut
    obtain ⟨f, hcw, hfw⟩ := HK.out.fam
    obtain ⟨u, hu⟩ := cell?_setCell_some (p := ⟨blk, off + j3, none⟩) (x := .int .u64 (f a)) (hcw a (by omega))
    go_upto_region 21 with fail
    go_region
    clear hu
    go_wp2_with fail
    go_ret2
    exact ⟨⟨j3, false, rfl, hj3, hjb3⟩, ((HK.out.set _ _).set _ _).drew⟩
end Go.Proofs.YbulkdxyaFmt
