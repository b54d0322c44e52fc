/- The walk of the law. -/
import Derived.Test.YbulkdybgParts
namespace Go.Proofs.Ybulkdybg
open Go.RowKit
set_option linter.unusedSimpArgs false
set_option linter.unusedVariables false

theorem info39 : (Yba.prog.info? 39).map (fun i => (i.zero, i.size, i.bytes)) = some (some (.pointer none), 1, 8) := by kernel_rfl
theorem info46 : (Yba.prog.info? 46).map (fun i => (i.zero, i.size, i.bytes)) = some (some (.agg #[.int .u64 0, .pointer none]), 2, 16) := by kernel_rfl
theorem make_pairs (t e : TypeId) (z : Array Value) (ht : Yba.prog.underlying t = some (.slice e)) (hinfo : (Yba.prog.info? e).map (fun i => (i.zero, i.size, i.bytes)) = some (some (.agg z), 2, 16))
    (n : Nat) (hc : n ≤ 2097152) (w : World) :
    (Instr.makeSlice t (.int .i64 (n : Int)) (.int .i64 (n : Int))).run Yba.prog w = .ok (.slice (some ⟨w.heap.size, 0, none⟩) n n) (w.alloc (.cells (madeCells z (n * 2)) e)) := by
  obtain ⟨i, hi, hz, hs, hb⟩ := info_parts hinfo
  have h := run_make (P := Yba.prog) w t e i (.agg z) ht hi hz .i64 .i64 n n (by omega) (by omega) (by rw [hb]; omega) (by omega)
  simp only [Int.toNat_natCast, hs, Value.cells] at h
  exact h

theorem neq46 (w : World) : (binOp .neq 46 (.agg #[.int .u64 0, .pointer none]) (.agg #[.int .u64 0, .pointer none])).run Yba.prog w = .ok (.bool false) w := by kernel_rfl
theorem neq39_nil (a : Addr) (w : World) : (binOp .neq 39 (.pointer (some a)) (.pointer none)).run Yba.prog w = .ok (.bool true) w := by kernel_rfl
theorem assert46 (v : Value) (w : World) : (Instr.typeAssert (.iface 46 v) 20 46 true).run Yba.prog w = .ok (.tuple #[v, .bool true]) w := by kernel_rfl

set_option maxRecDepth 100000 in
set_option maxHeartbeats 2000000 in
theorem walk (b0 off0 n m cap0 : Nat) (hnm : n = m + 1) (z0 : List Int) (w : World) (hb0 : b0 < w.heap.size) (hcs : ∀ i, i < n → w.cell? ⟨b0, off0 + i, none⟩ = some (.int .u64 (sgOf z0 i)))
    (hbd : ∀ i, 0 ≤ sgOf z0 i ∧ sgOf z0 i ≤ 18446744073709551615) (hm : n ≤ 1048576) :
    Calls Yba.prog 4 #[.slice (some ⟨b0, off0, none⟩) n cap0] w fun e w' => e = .returned (.bool true) ∧ Below w.heap.size w w' := by
  have HC : Hid _ := hcs
  have HB : Hid _ := hbd
  clear hcs hbd
  have hmP := run_make_row' (P := Yba.prog) 35 39 (.pointer none) 8 Yba.underlying35 info39 rfl .i64 .i64 n (by omega) (by omega)
  have hmH := make_pairs 37 46 #[.int .u64 0, .pointer none] Yba.underlying37 info46 n (by omega)
  have hn1 : (n : Int) - 1 = (m : Int) := by omega
  have hn0 : ((n : Int) == 0) = false := by simp; omega
  have hmn : m < n := by omega
  have HN : Hid _ := hnm
  clear hnm
  go_enter Yba.func4, Yba.ntmps4
  go_upto_block 0 with fail
  go_cut [] (fun wx => ∃ p, M1 w.heap.size n p (sgOf z0) n n w wx)
  case first =>
    go_wp2_with fail
    go_loopw [6] (fun i wr => ∃ (k : Nat) (p : Nat → Option Nat), k ≤ n ∧ i = .int .i64 k ∧ M1 w.heap.size n p (sgOf z0) k k w wr) (fun i _ => n - (intOf i).toNat)
    case atStart => exact ⟨0, _, Nat.zero_le _, rfl, M1.start w n _⟩
    case round =>
      clear hmP hmH
      obtain ⟨k, p, hk, rfl, hM⟩ := hrel
      by_cases hlt : k < n
      · have hs0 : wr.cell? ⟨b0, off0 + k, none⟩ = some (.int .u64 (sgOf z0 k)) := (hM.below.cell (p := ⟨b0, off0 + k, none⟩) hb0).trans (HC.out k hlt)
        have hbk := HB.out k
        have hz := hM.size
        go_upto_if 34 with fail
        go_cut [] (fun wx => ∃ q, M1 w.heap.size n (upd p k q) (sgOf z0) (k + 1) k w wx)
        case first =>
          have hp0 : wr.cell? ⟨w.heap.size, k, none⟩ = some (.pointer none) := by simpa [pcell] using hM.rowP.cell hlt
          have hpf := hM.rowP.frozen k
          have hl1 := hM.rowP.lt
          by_cases h3 : sgOf z0 k % 3 = 0
          · have h3' : (sgOf z0 k % 3 != 0) = false := by simp [h3]
            clear h3
            go_wp2
            go_meet
            case rel => exact ⟨_, hM.skip⟩
          · have h3' : (sgOf z0 k % 3 != 0) = true := by simp [h3]
            clear h3
            go_wp2
            go_meet
            case rel => exact ⟨_, hM.make rfl⟩
        case rest =>
          obtain ⟨q, hM2⟩ := hcut
          have hz2 := hM2.size
          have hs1 : wc.cell? ⟨b0, off0 + k, none⟩ = some (.int .u64 (sgOf z0 k)) := (hM2.below.cell (p := ⟨b0, off0 + k, none⟩) hb0).trans (HC.out k hlt)
          have hv := cell_of (i := 0) hM2.hv rfl
          have hv' : wc.cell? ⟨w.heap.size + 1 + 1, 0, none⟩ = some (.slice (some ⟨w.heap.size + 1, 0, none⟩) n n) := hv
          have hp : wc.cell? ⟨w.heap.size, k, none⟩ = some (.pointer (pa (upd p k q k))) := by simpa [pcell] using hM2.rowP.cell hlt
          have c0 : wc.cell? ⟨w.heap.size + 1, k * 2, none⟩ = some (.int .u64 0) := by
            have := hM2.rowH.cell (i := k * 2) (by omega)
            rwa [show hcell (upd p k q) (sgOf z0) k (k * 2) = .int .u64 0 by unfold hcell; rw [if_neg (by omega), if_pos (by omega)]] at this
          have c1 : wc.cell? ⟨w.heap.size + 1, k * 2 + 1, none⟩ = some (.pointer none) := by
            have := hM2.rowH.cell (i := k * 2 + 1) (by omega)
            rwa [show hcell (upd p k q) (sgOf z0) k (k * 2 + 1) = .pointer none by unfold hcell; rw [if_neg (by omega), if_neg (by omega)]] at this
          have fH := hM2.rowH.frozen
          have HM : Hid _ := hM2.lay rfl
          clear hM2 hM hs0 hv hz hz2 hbk
          go_wp2_with fail
          go_region
          all_goals go_wp2
          all_goals
            go_roundw
            case rel => exact ⟨k + 1, _, by omega, by go_num, HM.out⟩
            case measure => simp [intOf]; omega
      · obtain rfl : k = n := by omega
        go_wp2
        go_meet
        case rel => exact ⟨p, hM⟩
  case rest =>
    obtain ⟨p, hM⟩ := hcut
    clear hmP hmH
    obtain ⟨wA, hwA⟩ : ∃ x, x = wc := ⟨_, rfl⟩
    subst hwA
    have hz := hM.size
    have hv' : wA.cell? ⟨w.heap.size + 1 + 1, 0, none⟩ = some (.slice (some ⟨w.heap.size + 1, 0, none⟩) n n) := cell_of (i := 0) hM.hv rfl
    have hvf : wA.frozen? ⟨w.heap.size + 1 + 1, 0, none⟩ = false := frozen_of hM.hv 0
    have hl1 := hM.rowH.lt
    have hl2 : w.heap.size + 1 + 1 < wA.heap.size := by omega
    have hnn := HN.out
    have c0 : wA.cell? ⟨w.heap.size + 1, m * 2, none⟩ = some (.int .u64 (sgOf z0 m)) := by
      have := hM.rowH.cell (i := m * 2) (by omega)
      rwa [hcell_even _ _ _ _ (by omega)] at this
    have c1 : wA.cell? ⟨w.heap.size + 1, m * 2 + 1, none⟩ = some (.pointer (pa (p m))) := by
      have := hM.rowH.cell (i := m * 2 + 1) (by omega)
      rwa [hcell_odd _ _ _ _ (by omega)] at this
    have fH := hM.rowH.frozen
    have HF : Hid _ := fin_of HN.out hM (.int .u64 (sgOf z0 m)) (.pointer (pa (p m))) rfl
    clear hM hnn
    have hta := assert46
    have hn39 := neq_ptr 39 44 Yba.underlying39 (by kernel_rfl)
    have hn49 := neq_ptr 49 46 Yba.underlying49 (by kernel_rfl)
    go_upto_region 19 with go_in
    clear hta hv' hvf c0 c1 fH hl1 hl2 hz
    have HF2 := HF.out
    clear HF
    revert HF2
    generalize ((((wA.setCell ⟨w.heap.size + 1, m * 2, none⟩ (.int .u64 0)).setCell ⟨w.heap.size + 1, m * 2 + 1, none⟩ (.pointer none)).setCell ⟨w.heap.size + 1 + 1, 0, none⟩ (.slice (some ⟨w.heap.size + 1, 0, none⟩) m n)).alloc (.cells #[.int .u64 (sgOf z0 m), .pointer (pa (p m))] 46)).alloc (.cells #[.int .u64 (sgOf z0 m), .pointer (pa (p m))] 46) = wB
    intro hF
    have hd0 := hF.d0
    have hd1 := hF.d1
    have hpm := hF.pp m hmn
    have hsm : wB.cell? ⟨b0, off0 + m, none⟩ = some (.int .u64 (sgOf z0 m)) := (hF.below.cell (p := ⟨b0, off0 + m, none⟩) hb0).trans (HC.out m hmn)
    have hhv : wB.cell? ⟨w.heap.size + 1 + 1, 0, none⟩ = some (.slice (some ⟨w.heap.size + 1, 0, none⟩) m n) := hF.hv
    go_quiet (fail)
    go_upto_block 2 with fail
    have hF2 := hF.drewN nq
    clear hd0 hd1 hpm hsm hhv hF
    revert hF2
    generalize wB.drewN nq = wD
    intro hF
    go_cut [] (fun wx => Fin w.heap.size n m (wA.heap.size + 1) p (sgOf z0) w wx)
    case first =>
      go_wp2_with fail
      go_loopw [11] (fun i wr => ∃ k : Nat, k ≤ m ∧ i = .int .i64 k ∧ Fin w.heap.size n m (wA.heap.size + 1) p (sgOf z0) w wr) (fun i _ => m - (intOf i).toNat)
      case atStart => exact ⟨0, Nat.zero_le _, rfl, hF⟩
      case round =>
        clear hF
        obtain ⟨k, hk, rfl, hF⟩ := hrel
        by_cases hlt : k < m
        · have hs0 : wr.cell? ⟨b0, off0 + k, none⟩ = some (.int .u64 (sgOf z0 k)) := (hF.below.cell (p := ⟨b0, off0 + k, none⟩) hb0).trans (HC.out k (by omega))
          have hhv : wr.cell? ⟨w.heap.size + 1 + 1, 0, none⟩ = some (.slice (some ⟨w.heap.size + 1, 0, none⟩) m n) := hF.hv
          have hh0 := hF.h0 k hlt
          have hh1 := hF.h1 k hlt
          have hpp := hF.pp k (by omega)
          have hkn : k < n := by omega
          go_wp2_with fail
          go_quiet (fail)
          go_wp2
          go_roundw
          case rel => exact ⟨k + 1, by omega, by go_num, hF.drewN _⟩
          case measure => simp [intOf]; omega
        · go_wp2
          go_meet
          case rel => exact hF
    case rest =>
      clear hF
      have hhv : wc.cell? ⟨w.heap.size + 1 + 1, 0, none⟩ = some (.slice (some ⟨w.heap.size + 1, 0, none⟩) m n) := hcut.hv
      go_upto_region 28 with fail
      go_cut [125] (fun b wx => b = .bool false ∧ Fin w.heap.size n m (wA.heap.size + 1) p (sgOf z0) w wx)
      case first =>
        by_cases hm0 : m = 0
        · have hg : decide ((1 : Int) < (n : Int)) = false := by simp; omega
          go_quiet (fail)
          go_wp2
          go_meet
          case rel => exact ⟨by simp, hcut.drewN _⟩
        · have hg : (1 : Int) < (n : Int) := by omega
          have hg0 : 0 < m := by omega
          have hgn : 0 < n := by omega
          go_quiet (fail)
          go_wp2
          go_meet
          case rel => exact ⟨by simp, hcut.drewN _⟩
      case rest =>
        obtain ⟨rfl, hF⟩ := hcut
        have hl0 := hF.l0
        have hl1 := hF.l1
        have hq46 := neq46
        have hq39 := neq39_nil
        clear hcut hhv
        go_wp2_with fail
        clear hl0 hl1 hq46
        go_loopw [12] (fun i wr => ∃ k : Nat, k ≤ n ∧ i = .int .i64 k ∧ Fin w.heap.size n m (wA.heap.size + 1) p (sgOf z0) w wr) (fun i _ => n - (intOf i).toNat)
        case atStart => exact ⟨0, Nat.zero_le _, rfl, hF⟩
        case round =>
          clear hF
          obtain ⟨k, hk, rfl, hF⟩ := hrel
          by_cases hlt : k < n
          · have hs0 : wr.cell? ⟨b0, off0 + k, none⟩ = some (.int .u64 (sgOf z0 k)) := (hF.below.cell (p := ⟨b0, off0 + k, none⟩) hb0).trans (HC.out k (by omega))
            rcases hpk : p k with _ | b
            · have hpp : wr.cell? ⟨w.heap.size, k, none⟩ = some (.pointer none) := by rw [hF.pp k hlt, hpk]; rfl
              clear hpk
              go_wp2_with fail
              go_quiet (fail)
              go_wp2
              go_roundw
              case rel => exact ⟨k + 1, by omega, by go_num, hF.drewN _⟩
              case measure => simp [intOf]; omega
            · have hpp : wr.cell? ⟨w.heap.size, k, none⟩ = some (.pointer (some ⟨b, 0, none⟩)) := by rw [hF.pp k hlt, hpk]; rfl
              obtain ⟨hm0, hm1⟩ := hF.msg k hlt b hpk
              clear hpk
              go_wp2_with fail
              go_quiet (fail)
              go_wp2
              go_roundw
              case rel => exact ⟨k + 1, by omega, by go_num, hF.drewN _⟩
              case measure => simp [intOf]; omega
          · go_wp2
            go_ret
            exact ⟨rfl, hF.below⟩
end Go.Proofs.Ybulkdybg
