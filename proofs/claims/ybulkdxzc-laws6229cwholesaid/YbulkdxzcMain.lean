/- The walk of the law. -/
import Derived.Test.YbulkdxzcParts
namespace Go.Proofs.Ybulkdxzc
open Go.RowKit
set_option linter.unusedSimpArgs false
set_option linter.unusedVariables false

theorem info26 : (Yba.prog.info? 26).map (fun i => (i.zero, i.size, i.bytes)) = some (some (.pointer none), 1, 8) := by kernel_rfl
theorem info2 : (Yba.prog.info? 2).map (fun i => (i.zero, i.size, i.bytes)) = some (some (.int .i64 0), 1, 8) := by kernel_rfl
theorem info32 : (Yba.prog.info? 32).map (fun i => (i.zero, i.size, i.bytes)) = some (some (.agg #[.int .i64 0, .pointer none]), 2, 16) := by kernel_rfl

/-- 'make' of pairs. -/
theorem make_pairs (t e : TypeId) (z : Array Value) (ht : Yba.prog.underlying t = some (.slice e)) (hinfo : (Yba.prog.info? e).map (fun i => (i.zero, i.size, i.bytes)) = some (some (.agg z), 2, 16))
    (n c : Nat) (hc : c ≤ 2097152) (hn : n ≤ c) (x : Int) (hx : x = (c : Int)) (w : World) :
    (Instr.makeSlice t (.int .i64 (n : Int)) (.int .i64 x)).run Yba.prog w = .ok (.slice (some ⟨w.heap.size, 0, none⟩) n c) (w.alloc (.cells (madeCells z (c * 2)) e)) := by
  obtain ⟨i, hi, hz, hs, hb⟩ := info_parts hinfo
  subst hx
  have h := run_make (P := Yba.prog) w t e i (.agg z) ht hi hz .i64 .i64 n c (by omega) (by omega) (by rw [hb]; omega) (by omega)
  simp only [Int.toNat_natCast, hs, Value.cells] at h
  exact h

set_option maxRecDepth 100000 in
set_option maxHeartbeats 2000000 in
theorem walk (a0 : Option Addr) (len0 cap0 : Nat) (z0 : List Int) (a1 : Option Addr) (len1 cap1 : Nat) (z1 : List Int) (a2 : Int) (a3 : Int) (a4 : Int) (a5 : Int) (a6 : Option Addr) (len6 cap6 : Nat) (z6 : List Int) (a7 : Int) (a8 : Int) (a9 : Bool) (w : World) (w0 : IsRow .i64 w a0 len0 cap0 z0) (w1 : IsRow .i64 w a1 len1 cap1 z1) (w2 : (Lit.int .u8 a2).wf = true) (w3 : (Lit.int .i64 a3).wf = true) (w4 : (Lit.int .i64 a4).wf = true) (w5 : (Lit.int .i64 a5).wf = true) (w6 : IsRow .i64 w a6 len6 cap6 z6) (w7 : (Lit.int .i64 a7).wf = true) (w8 : (Lit.int .i64 a8).wf = true)
    (hl0 : len0 ≤ 1048576) (hl6 : len6 ≤ 1048576) :
    Calls Yba.prog 3 #[.slice a0 len0 cap0, .slice a1 len1 cap1, .int .u8 a2, .int .i64 a3, .int .i64 a4, .int .i64 a5, .slice a6 len6 cap6, .int .i64 a7, .int .i64 a8, .bool a9] w fun e w' => e = .returned (.bool true) ∧ Below w.heap.size w w' := by
  have b2 := bounds_u8 w2
  have b8 := bounds_i64 w8
  have hl1 := w1.len
  have W0 : Hid (IsRow .i64 w a0 len0 cap0 z0) := w0
  have W1 : Hid (IsRow .i64 w a1 len1 cap1 z1) := w1
  have W6 : Hid (IsRow .i64 w a6 len6 cap6 z6) := w6
  clear w0 w1 w6 w2 w3 w4 w5 w7 w8
  obtain ⟨e, he⟩ : ∃ e : Nat, a2 % 4 = (e : Int) := ⟨(a2 % 4).toNat, by omega⟩
  have he4 : e < 4 := by omega
  have hmT := make_pairs 24 29 #[.pointer none, .int .i64 0] Yba.underlying24 info29 len0 (len0 + e) (by omega) (by omega) ((len0 : Int) + (e : Int)) (by omega)
  have hmC := run_make_row' (P := Yba.prog) 25 26 (.pointer none) 8 Yba.underlying25 info26 rfl .i64 .i64 len0 (by omega) (by omega)
  have hmV := run_make_row' (P := Yba.prog) 23 2 (.int .i64 0) 8 Yba.underlying23 info2 rfl .i64 .i64 len0 (by omega) (by omega)
  go_enter Yba.func3, Yba.ntmps3
  go_upto_block 0 with fail
  simp only [he]
  clear he b2
  go_cut [] (fun wx => ∃ f, L1 w.heap.size len0 e f (sgOf z0) (cfOf len1 z1) len0 w wx)
  case first =>
   as_aux_lemma =>
    go_wp2_with fail
    go_loopw [25] (fun i wr => ∃ (k : Nat) (f : Nat → Nat), k ≤ len0 ∧ i = .int .i64 k ∧ L1 w.heap.size len0 e f (sgOf z0) (cfOf len1 z1) k w wr) (fun i _ => len0 - (intOf i).toNat)
    case atStart => exact ⟨0, _, Nat.zero_le _, rfl, L1.start w len0 e _ _⟩
    case round =>
      clear hmT hmC hmV
      obtain ⟨k, f, hk, rfl, hL⟩ := hrel
      by_cases hlt : k < len0
      · obtain ⟨b0, off0, rfl, hb0, hc0⟩ := W0.out.elem (by omega)
        have hs0 : wr.cell? ⟨b0, off0 + k, none⟩ = some (.int .i64 (sgOf z0 k)) := (hL.below.cell (p := ⟨b0, off0 + k, none⟩) hb0).trans (hc0 k hlt)
        clear hc0
        go_upto_if 65 with fail
        go_cut [26] (fun c wx => c = .int .i64 (cfOf len1 z1 k) ∧ wx = wr)
        case first =>
         as_aux_lemma =>
          by_cases h1 : len1 = 0
          · have h1' : ¬ (0 : Int) < (len1 : Int) := by omega
            have hcf : (k : Int) = cfOf len1 z1 k := by unfold cfOf; rw [if_pos h1]
            have HC : Hid _ := hcf
            clear hcf h1
            go_wp2
            go_meet
            case rel => exact ⟨congrArg (Value.int .i64) HC.out, rfl⟩
          · have h1' : (0 : Int) < (len1 : Int) := by omega
            obtain ⟨b1, off1, rfl, hb1, hc1⟩ := W1.out.elem (by omega)
            obtain ⟨r, hr⟩ : ∃ r : Nat, (k : Int) % (len1 : Int) = (r : Int) := ⟨k % len1, by simp⟩
            have hrl : r < len1 := by have := Int.emod_lt_of_pos (k : Int) h1'; omega
            have hrk : r = k % len1 := by have : ((k % len1 : Nat) : Int) = (r : Int) := by rw [← hr]; simp
                                          omega
            have hs1 : wr.cell? ⟨b1, off1 + r, none⟩ = some (.int .i64 (sgOf z1 r)) := (hL.below.cell (p := ⟨b1, off1 + r, none⟩) hb1).trans (hc1 r hrl)
            have hcf : sgOf z1 r = cfOf len1 z1 k := by unfold cfOf; rw [if_neg h1, hrk]
            have HC : Hid _ := hcf
            clear hcf hc1 hrk h1
            go_wp2
            go_meet
            case rel => exact ⟨congrArg (Value.int .i64) HC.out, rfl⟩
        case rest =>
          obtain ⟨rfl, rfl⟩ := hcut
          have cb := cf_bound W1.out k (by omega)
          have hv := hL.rowV.cell hlt
          have hvf := hL.rowV.frozen k
          have hv' : wc.cell? ⟨w.heap.size + 1 + 1, k, none⟩ = some (.int .i64 0) := by simpa [vcell] using hv
          clear hv
          go_wp2_with fail
          refine (newInt (cfOf len1 z1 k) _ cb.1 cb.2).mono ?_
          rintro e' w1 ⟨b, rfl, hB, hb⟩
          rw [World.size_setCell] at hB hb
          have hs := hL.size
          have hbk : ∀ i, i < wc.heap.size → i ≠ w.heap.size + 2 → w1.heap[i]? = wc.heap[i]? := fun i hi hne => (hb.block i hi).trans (Below.heap_setCell _ _ _ _ hne)
          have cC : w1.cell? ⟨w.heap.size + 1, k, none⟩ = some (.pointer none) := by
            have := (hL.rowC.of_block (hbk (w.heap.size + 1) (by omega) (by omega))).cell hlt
            simpa [ccell] using this
          have fC := (hL.rowC.of_block (hbk (w.heap.size + 1) (by omega) (by omega))).frozen k
          have hT1 := hL.rowT.of_block (hbk w.heap.size (by omega) (by omega))
          have cT0 : w1.cell? ⟨w.heap.size, k * 2, none⟩ = some (.pointer none) := by
            have := hT1.cell (i := k * 2) (by omega)
            rwa [show tcell f (sgOf z0) k (k * 2) = .pointer none by unfold tcell; rw [if_neg (by omega), if_pos (by omega)]] at this
          have cT1 : w1.cell? ⟨w.heap.size, k * 2 + 1, none⟩ = some (.int .i64 0) := by
            have := hT1.cell (i := k * 2 + 1) (by omega)
            rwa [show tcell f (sgOf z0) k (k * 2 + 1) = .int .i64 0 by unfold tcell; rw [if_neg (by omega), if_neg (by omega)]] at this
          have fT := hT1.frozen
          have cs0 : w1.cell? ⟨b0, off0 + k, none⟩ = some (.int .i64 (sgOf z0 k)) := (World.cell?_of_block (hbk b0 (by omega) (by omega))).trans hs0
          have HL : Hid _ := hL.next hb hB rfl
          clear hbk hT1 hs0 hv' hvf hL hB hb hs cb
          go_wp2_with fail
          go_region
          all_goals go_wp2
          all_goals
            go_roundw
            case rel => exact ⟨k + 1, _, by omega, by go_num, HL.out⟩
            case measure => simp [intOf]; omega
      · obtain rfl : k = len0 := by omega
        go_wp2
        go_meet
        case rel => exact ⟨f, hL⟩
  case rest =>
    obtain ⟨f, hL⟩ := hcut
    obtain ⟨wA, hwA⟩ : ∃ x, x = wc := ⟨_, rfl⟩
    subst hwA
    clear hmT hmC hmV W1 hl1
    have hmS := make_pairs 30 32 #[.int .i64 0, .pointer none] Yba.underlying30 info32 len6 len6 (by omega) (by omega) (len6 : Int) rfl
    have hmB := run_make_row' (P := Yba.prog) 25 26 (.pointer none) 8 Yba.underlying25 info26 rfl .i64 .i64 len6 (by omega) (by omega)
    go_upto_block 2 with fail
    go_cut [] (fun wx => ∃ f2, L2 wA.heap.size len6 f2 (sgOf z6) len6 wA wx)
    case first =>
     as_aux_lemma =>
      go_wp2_with fail
      go_loopw [30] (fun i wr => ∃ (k : Nat) (f2 : Nat → Nat), k ≤ len6 ∧ i = .int .i64 k ∧ L2 wA.heap.size len6 f2 (sgOf z6) k wA wr) (fun i _ => len6 - (intOf i).toNat)
      case atStart => exact ⟨0, _, Nat.zero_le _, rfl, L2.start wA len6 _⟩
      case round =>
        clear hmS hmB
        obtain ⟨k, f2, hk, rfl, hL2⟩ := hrel
        by_cases hlt : k < len6
        · obtain ⟨b6, off6, rfl, hb6, hc6⟩ := W6.out.elem (by omega)
          have hz : w.heap.size + 3 ≤ wA.heap.size := hL.size
          have hs := hL2.size
          have hs6 : wr.cell? ⟨b6, off6 + k, none⟩ = some (.int .i64 (sgOf z6 k)) := (hL2.below.cell (p := ⟨b6, off6 + k, none⟩) (by show b6 < _; omega)).trans ((hL.below.cell (p := ⟨b6, off6 + k, none⟩) hb6).trans (hc6 k hlt))
          clear hc6
          go_wp2_with fail
          refine (newInt ((k : Int) + 2) _ (by omega) (by omega)).mono ?_
          rintro e' w1 ⟨b, rfl, hB, hb⟩
          have cC : w1.cell? ⟨wA.heap.size + 1, k, none⟩ = some (.pointer none) := by
            have := (hL2.rowB.of_block (hb.block (wA.heap.size + 1) (by omega))).cell hlt
            simpa [ccell] using this
          have fC := (hL2.rowB.of_block (hb.block (wA.heap.size + 1) (by omega))).frozen k
          have hT1 := hL2.rowS.of_block (hb.block wA.heap.size (by omega))
          have cT0 : w1.cell? ⟨wA.heap.size, k * 2, none⟩ = some (.int .i64 0) := by
            have := hT1.cell (i := k * 2) (by omega)
            rwa [show scell f2 (sgOf z6) k (k * 2) = .int .i64 0 by unfold scell; rw [if_neg (by omega), if_pos (by omega)]] at this
          have cT1 : w1.cell? ⟨wA.heap.size, k * 2 + 1, none⟩ = some (.pointer none) := by
            have := hT1.cell (i := k * 2 + 1) (by omega)
            rwa [show scell f2 (sgOf z6) k (k * 2 + 1) = .pointer none by unfold scell; rw [if_neg (by omega), if_neg (by omega)]] at this
          have fT := hT1.frozen
          have cs0 : w1.cell? ⟨b6, off6 + k, none⟩ = some (.int .i64 (sgOf z6 k)) := (World.cell?_of_block (hb.block b6 (by omega))).trans hs6
          have HL2 : Hid _ := hL2.next hb hB rfl
          have hbz : ¬ b6 = wA.heap.size := by omega
          clear hT1 hs6 hL2 hB hb hs
          go_wp2_with fail
          go_region
          all_goals go_wp2
          all_goals
            go_roundw
            case rel => exact ⟨k + 1, _, by omega, by go_num, HL2.out⟩
            case measure => simp [intOf]; omega
        · obtain rfl : k = len6 := by omega
          go_wp2
          go_meet
          case rel => exact ⟨f2, hL2⟩
    case rest =>
      obtain ⟨f2, hL2⟩ := hcut
      clear hmS hmB
      go_upto_if 131 with fail
      obtain ⟨wB, hwB⟩ : ∃ x, x = wc := ⟨_, rfl⟩
      subst hwB
      go_cut [32] (fun t wx => ∃ cp : Option Addr, t = .pointer cp ∧ (cp = none ∨ ∃ b, cp = some ⟨b, 0, none⟩) ∧ (∀ b, cp = some ⟨b, 0, none⟩ → Big wx (wB.heap.size + 1) wx.heap.size b a8) ∧ Below (wB.heap.size + 1) (wB.alloc (.cells #[.slice (some ⟨w.heap.size, 0, none⟩) len0 (len0 + e), .int .i64 a3, .slice (some ⟨wA.heap.size, 0, none⟩) len6 len6, .int .i64 a4, .int .i64 a5] 35)) wx)
      case first =>
       as_aux_lemma =>
        cases a9
        · go_wp2_with fail
          refine (newInt a8 _ b8.1 b8.2).mono ?_
          rintro e' w1 ⟨b, rfl, hB, hb⟩
          rw [World.size_alloc] at hB hb
          go_wp2
          go_meet
          case rel => exact ⟨_, rfl, .inr ⟨b, rfl⟩, (fun b' hb' => by cases hb'; exact hB), hb⟩
        · go_wp2
          go_meet
          case rel => exact ⟨none, rfl, .inl rfl, (fun b' hb' => by cases hb'), Below.refl _ _⟩
      case rest =>
        obtain ⟨cp, rfl, hcp, htc, hb⟩ := hcut
        have hz1 := hL.size
        have hz2 := hL2.size
        have hnp := neq_ptr
        have hS := (hb.block wB.heap.size (by omega)).trans (heap_alloc_new _ _)
        have hT := (hL.rowT.of_block (hL2.below.block w.heap.size (by omega))).of_block ((hb.block w.heap.size (by omega)).trans (Below.heap_alloc _ _ _ (by omega)))
        go_wp2_with fail
        refine (push_any wB.heap.size w.heap.size len0 e cp a7 a3 _ _ _ _ _ hl0 hS hT (by omega)).mono ?_
        rintro e' w' ⟨rfl, hP⟩
        obtain ⟨T, cap, hF⟩ := fin_of hL hL2 hb htc hP
        clear hP hS hT htc hb hL hL2
        have h0 := hF.s0
        go_upto_block 4 with fail
        clear h0
        go_cut [] (fun wx => Fin w.heap.size wA.heap.size wB.heap.size len0 len6 T cap f f2 (sgOf z0) (cfOf len1 z1) (sgOf z6) cp a7 (if a7 < 0 then wrap64 (a3 + 1) else a3) a4 a5 a8 w wx)
        case first =>
         as_aux_lemma =>
          go_wp2_with fail
          go_loopw [33] (fun i wr => ∃ k : Nat, k ≤ len0 ∧ i = .int .i64 k ∧ Fin w.heap.size wA.heap.size wB.heap.size len0 len6 T cap f f2 (sgOf z0) (cfOf len1 z1) (sgOf z6) cp a7 (if a7 < 0 then wrap64 (a3 + 1) else a3) a4 a5 a8 w wr) (fun i _ => len0 - (intOf i).toNat)
          case atStart => exact ⟨0, Nat.zero_le _, rfl, hF⟩
          case round =>
            clear hF
            obtain ⟨k, hk, rfl, hF⟩ := hrel
            by_cases hlt : k < len0
            · obtain ⟨b0, off0, rfl, hb0, hc0⟩ := W0.out.elem (by omega)
              have hs0 : wr.cell? ⟨b0, off0 + k, none⟩ = some (.int .i64 (sgOf z0 k)) := (hF.below.cell (p := ⟨b0, off0 + k, none⟩) hb0).trans (hc0 k hlt)
              have h0 := hF.s0
              have hp0 := hF.p0 k hlt
              have hp1 := hF.p1 k hlt
              have ht0 := hF.t0 k hlt
              have ht1 := hF.t1 k hlt
              have hcc := hF.c k hlt
              have hvv := hF.v k hlt
              obtain ⟨lo, hi, hbg⟩ := hF.big k hlt
              clear hc0
              go_wp2_with fail
              go_quiet (fail)
              go_wp2_with fail
              go_quiet (fail)
              go_wp2_with fail
              go_quiet ((go_at_call 6; exact int64_q2 lo hi _ _ wr _ _ hbg))
              go_wp2
              go_roundw
              case rel => exact ⟨k + 1, by omega, by go_num, by first | exact ((hF.drewN _).drewN _).drewN _ | exact hF.drewN _⟩
              case measure => simp [intOf]; omega
            · go_wp2
              go_meet
              case rel => exact hF
        case rest =>
          clear hF
          have h0 := hcut.s0
          have hn0 := hcut.n0
          have hn1 := hcut.n1
          have h2 := hcut.s2
          rcases hcp with rfl | ⟨bt, rfl⟩
          · by_cases hneg : a7 < 0
            · as_aux_lemma =>
              have h1 := hcut.s1
              rw [if_pos hneg] at h1
              go_upto_block 6 with fail
              clear h0 h1 h2 hn0 hn1
              go_wp2_with fail
              go_loopw [35] (fun i wr => ∃ k : Nat, k ≤ len6 ∧ i = .int .i64 k ∧ Fin w.heap.size wA.heap.size wB.heap.size len0 len6 T cap f f2 (sgOf z0) (cfOf len1 z1) (sgOf z6) .none a7 (if a7 < 0 then wrap64 (a3 + 1) else a3) a4 a5 a8 w wr) (fun i _ => len6 - (intOf i).toNat)
              case atStart => exact ⟨0, Nat.zero_le _, rfl, hcut⟩
              case round =>
                clear hcut
                obtain ⟨k, hk, rfl, hF⟩ := hrel
                by_cases hlt : k < len6
                · obtain ⟨b6, off6, rfl, hb6, hc6⟩ := W6.out.elem (by omega)
                  have hs6 : wr.cell? ⟨b6, off6 + k, none⟩ = some (.int .i64 (sgOf z6 k)) := (hF.below.cell (p := ⟨b6, off6 + k, none⟩) hb6).trans (hc6 k hlt)
                  have h2 := hF.s2
                  have hq0 := hF.q0 k hlt
                  have hq1 := hF.q1 k hlt
                  have hyy := hF.y k hlt
                  obtain ⟨lo2, hi2, hbg2⟩ := hF.big2 k hlt
                  clear hc6
                  go_wp2_with fail
                  go_quiet (fail)
                  go_wp2_with fail
                  refine (int64 lo2 hi2 _ _ _ (by exact hbg2)).mono ?_
                  rintro e' w' ⟨rfl, rfl⟩
                  go_wp2
                  go_roundw
                  case rel => exact ⟨k + 1, by omega, by go_num, hF.drewN _⟩
                  case measure => simp [intOf]; omega
                · have h3 := hF.s3
                  have h4 := hF.s4
                  go_wp2
                  go_ret
                  exact ⟨by simp, hF.below⟩
            · as_aux_lemma =>
              have h1 := hcut.s1
              rw [if_neg hneg] at h1
              go_upto_block 6 with fail
              clear h0 h1 h2 hn0 hn1
              go_wp2_with fail
              go_loopw [35] (fun i wr => ∃ k : Nat, k ≤ len6 ∧ i = .int .i64 k ∧ Fin w.heap.size wA.heap.size wB.heap.size len0 len6 T cap f f2 (sgOf z0) (cfOf len1 z1) (sgOf z6) .none a7 (if a7 < 0 then wrap64 (a3 + 1) else a3) a4 a5 a8 w wr) (fun i _ => len6 - (intOf i).toNat)
              case atStart => exact ⟨0, Nat.zero_le _, rfl, hcut⟩
              case round =>
                clear hcut
                obtain ⟨k, hk, rfl, hF⟩ := hrel
                by_cases hlt : k < len6
                · obtain ⟨b6, off6, rfl, hb6, hc6⟩ := W6.out.elem (by omega)
                  have hs6 : wr.cell? ⟨b6, off6 + k, none⟩ = some (.int .i64 (sgOf z6 k)) := (hF.below.cell (p := ⟨b6, off6 + k, none⟩) hb6).trans (hc6 k hlt)
                  have h2 := hF.s2
                  have hq0 := hF.q0 k hlt
                  have hq1 := hF.q1 k hlt
                  have hyy := hF.y k hlt
                  obtain ⟨lo2, hi2, hbg2⟩ := hF.big2 k hlt
                  clear hc6
                  go_wp2_with fail
                  go_quiet (fail)
                  go_wp2_with fail
                  refine (int64 lo2 hi2 _ _ _ (by exact hbg2)).mono ?_
                  rintro e' w' ⟨rfl, rfl⟩
                  go_wp2
                  go_roundw
                  case rel => exact ⟨k + 1, by omega, by go_num, hF.drewN _⟩
                  case measure => simp [intOf]; omega
                · have h3 := hF.s3
                  have h4 := hF.s4
                  go_wp2
                  go_ret
                  exact ⟨by simp, hF.below⟩
          · obtain ⟨lo, hi, hbg⟩ := hcut.tc bt rfl
            by_cases hneg : a7 < 0
            · as_aux_lemma =>
              have h1 := hcut.s1
              rw [if_pos hneg] at h1
              go_upto_block 6 with (first | (go_at_call 6; refine (int64 lo hi _ _ _ hbg).mono ?_; rintro e' w' ⟨rfl, rfl⟩))
              clear h0 h1 h2 hn0 hn1
              go_wp2_with fail
              go_loopw [35] (fun i wr => ∃ k : Nat, k ≤ len6 ∧ i = .int .i64 k ∧ Fin w.heap.size wA.heap.size wB.heap.size len0 len6 T cap f f2 (sgOf z0) (cfOf len1 z1) (sgOf z6) (some ⟨bt, 0, .none⟩) a7 (if a7 < 0 then wrap64 (a3 + 1) else a3) a4 a5 a8 w wr) (fun i _ => len6 - (intOf i).toNat)
              case atStart => exact ⟨0, Nat.zero_le _, rfl, hcut⟩
              case round =>
                clear hcut
                obtain ⟨k, hk, rfl, hF⟩ := hrel
                by_cases hlt : k < len6
                · obtain ⟨b6, off6, rfl, hb6, hc6⟩ := W6.out.elem (by omega)
                  have hs6 : wr.cell? ⟨b6, off6 + k, none⟩ = some (.int .i64 (sgOf z6 k)) := (hF.below.cell (p := ⟨b6, off6 + k, none⟩) hb6).trans (hc6 k hlt)
                  have h2 := hF.s2
                  have hq0 := hF.q0 k hlt
                  have hq1 := hF.q1 k hlt
                  have hyy := hF.y k hlt
                  obtain ⟨lo2, hi2, hbg2⟩ := hF.big2 k hlt
                  clear hc6
                  go_wp2_with fail
                  go_quiet (fail)
                  go_wp2_with fail
                  refine (int64 lo2 hi2 _ _ _ (by exact hbg2)).mono ?_
                  rintro e' w' ⟨rfl, rfl⟩
                  go_wp2
                  go_roundw
                  case rel => exact ⟨k + 1, by omega, by go_num, hF.drewN _⟩
                  case measure => simp [intOf]; omega
                · have h3 := hF.s3
                  have h4 := hF.s4
                  go_wp2
                  go_ret
                  exact ⟨by simp, hF.below⟩
            · as_aux_lemma =>
              have h1 := hcut.s1
              rw [if_neg hneg] at h1
              go_upto_block 6 with (first | (go_at_call 6; refine (int64 lo hi _ _ _ hbg).mono ?_; rintro e' w' ⟨rfl, rfl⟩))
              clear h0 h1 h2 hn0 hn1
              go_wp2_with fail
              go_loopw [35] (fun i wr => ∃ k : Nat, k ≤ len6 ∧ i = .int .i64 k ∧ Fin w.heap.size wA.heap.size wB.heap.size len0 len6 T cap f f2 (sgOf z0) (cfOf len1 z1) (sgOf z6) (some ⟨bt, 0, .none⟩) a7 (if a7 < 0 then wrap64 (a3 + 1) else a3) a4 a5 a8 w wr) (fun i _ => len6 - (intOf i).toNat)
              case atStart => exact ⟨0, Nat.zero_le _, rfl, hcut⟩
              case round =>
                clear hcut
                obtain ⟨k, hk, rfl, hF⟩ := hrel
                by_cases hlt : k < len6
                · obtain ⟨b6, off6, rfl, hb6, hc6⟩ := W6.out.elem (by omega)
                  have hs6 : wr.cell? ⟨b6, off6 + k, none⟩ = some (.int .i64 (sgOf z6 k)) := (hF.below.cell (p := ⟨b6, off6 + k, none⟩) hb6).trans (hc6 k hlt)
                  have h2 := hF.s2
                  have hq0 := hF.q0 k hlt
                  have hq1 := hF.q1 k hlt
                  have hyy := hF.y k hlt
                  obtain ⟨lo2, hi2, hbg2⟩ := hF.big2 k hlt
                  clear hc6
                  go_wp2_with fail
                  go_quiet (fail)
                  go_wp2_with fail
                  refine (int64 lo2 hi2 _ _ _ (by exact hbg2)).mono ?_
                  rintro e' w' ⟨rfl, rfl⟩
                  go_wp2
                  go_roundw
                  case rel => exact ⟨k + 1, by omega, by go_num, hF.drewN _⟩
                  case measure => simp [intOf]; omega
                · have h3 := hF.s3
                  have h4 := hF.s4
                  go_wp2
                  go_ret
                  exact ⟨by simp, hF.below⟩
end Go.Proofs.Ybulkdxzc
