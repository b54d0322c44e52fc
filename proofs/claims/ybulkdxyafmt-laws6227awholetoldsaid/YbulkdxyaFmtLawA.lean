/- The law on components: her walk. -/
import Derived.Test.YbulkdxyaFmtAp
namespace Go.Proofs.YbulkdxyaFmt
open Go.RowKit
set_option linter.unusedSimpArgs false
set_option linter.unusedVariables false

set_option maxRecDepth 100000 in
set_option maxHeartbeats 8000000 in
theorem lawA_calls (p1 p2 : Option Addr) (n1 c1 n2 c2 : Nat) (v1 v2 : Nat → Int) (w : World) (h1 : OV w p1 n1 v1) (h2 : OV w p2 n2 v2) (hl1 : n1 ≤ 281474976710656) (hl2 : n2 ≤ 281474976710656) :
    Calls Ybaf.prog 3 #[.slice p1 n1 c1, .slice p2 n2 c2] w fun e w' => e = .returned (.bool true) ∧ Below w.heap.size w w' := by
  have H1 : Hid (OV w p1 n1 v1) := h1
  have H2 : Hid (OV w p2 n2 v2) := h2
  clear h1 h2
  by_cases hn : 4096 < n1 + n2
  · have hn' : (4096 : Int) < (n1 : Int) + (n2 : Int) := by omega
    go_enter Ybaf.func3, Ybaf.ntmps3
    go_upto_if 32 with fail
    go_wp2_with fail
    go_ret
    exact ⟨rfl, Below.refl _ _⟩
  have hn' : ¬ (4096 : Int) < (n1 : Int) + (n2 : Int) := by omega
  obtain ⟨i50, hi50, hz0, hz1, hz2⟩ := info_parts inf50'
  have mkm := make35
  obtain ⟨Cb, hCb⟩ : ∃ Cb, w.heap.size = Cb := ⟨_, rfl⟩
  have HCb : Hid (w.heap.size = Cb) := hCb
  obtain ⟨r34, Wc, hb34, hb47, hWs, hW27⟩ := built47 (Cb + 1)
  have HR34 : Hid (∀ W : World, (Instr.build 34 #[(14, .agg cf5)]).run Ybaf.prog W = .ok (.agg r34) W) := fun W => run_build (P := Ybaf.prog) W 34 #[(14, .agg cf5)] r34 hb34
  have HR47 : Hid (∀ W : World, (Instr.build 47 #[(0, .agg r34), (5, .map (some (Cb + 1)))]).run Ybaf.prog W = .ok (.agg Wc) W) := fun W => run_build (P := Ybaf.prog) W 47 #[(0, .agg r34), (5, .map (some (Cb + 1)))] Wc hb47
  have HWc : Hid (Wc.size = 65 ∧ Wc[27]? = some (.map (some (Cb + 1)))) := ⟨hWs, hW27⟩
  obtain ⟨w1, HW1⟩ : ∃ W : World, Hid (W = ((w.alloc (.cells cf5 25)).alloc (.map #[] 0)).alloc (.cells Wc 47)) := ⟨_, rfl⟩
  have HA1 : Hid (AS w w1 Cb Wc (fun _ => none)) := by
    rw [HW1.out]
    refine ⟨?_, new_at (by simp [hCb]), MM.empty ?_, (((Below.refl _ _).alloc (Nat.le_refl _) _).alloc (by simp) _).alloc (by simp; omega) _, by omega⟩
    · rw [Below.heap_alloc _ _ _ (by simp; omega), Below.heap_alloc _ _ _ (by simp; omega)]; exact new_at hCb.symm
    · rw [Below.heap_alloc _ _ _ (by simp; omega)]; exact new_at (by simp [hCb])
  have hs1 : w1.heap.size = Cb + 3 := by rw [HW1.out]; simp [hCb]
  have HS1 : Hid (w1.heap.size = Cb + 3) := hs1
  clear hb34 hb47 hWs hW27 hs1 hCb
  go_enter Ybaf.func3, Ybaf.ntmps3
  go_upto_region 5 with (first
    | refine wpList_built1 rfl 34 14 (.tmp 34) rfl (.agg cf5) rfl r34 (HR34.out _) ?_
    | refine wpList_built2 rfl 47 0 5 (.tmp 35) (.tmp 36) rfl (.agg r34) (.map (some (Cb + 1))) rfl (by rw [← HCb.out]; simp [Act.eval]) Wc (HR47.out _) ?_)
  rw [HCb.out, ← HW1.out, show Cb + 1 + 1 = Cb + 2 from rfl]
  clear HW1 HR34 HR47 mkm
  go_cut [7] from 27 to 40 (fun x wx => ∃ p c, x = .slice p n1 c ∧ Hid (AS w wx Cb Wc (fun _ => none) ∧ SR wx (Cb + 2) p n1 c))
  case first =>
    by_cases h0 : n1 = 0
    · subst h0
      have HC : Hid (Calls Ybaf.prog 5 _ w1 _) := clone5_none p1 c1 w1
      go_wp2_with (go_at_call 5; refine HC.out.mono ?_; rintro e' w2 ⟨p, c, rfl, hb2⟩; have HB2 : Hid (Below w1.heap.size w1 w2) := hb2; clear hb2)
      go_meet
      exact ⟨p, c, rfl, HA1.out.keep HB2.out, .inl rfl⟩
    · have HC : Hid (Calls Ybaf.prog 5 _ w1 _) := clone5_calls p1 n1 c1 v1 w1 (H1.out.keep HA1.out.base) (by omega) (by omega)
      go_wp2_with (go_at_call 5; refine HC.out.mono ?_; rintro e' w2 ⟨g, c, rfl, hcap, hrk, hg, hb2⟩; have HB2 : Hid (Below w1.heap.size w1 w2 ∧ n1 ≤ c ∧ RK w2 w2 g 0 n1 ∧ w1.heap.size ≤ g) := ⟨hb2, hcap, hrk, hg⟩; clear hb2 hcap hrk hg)
      go_meet
      exact ⟨_, c, rfl, HA1.out.keep HB2.out.1, .inr ⟨g, rfl, HB2.out.2.1, HB2.out.2.2.1, by have := HB2.out.2.2.2; have := HS1.out; omega⟩⟩
  case rest =>
  obtain ⟨p3, c3, rfl, HA2⟩ := hcut
  clear HA1 HS1 H1
  go_upto_region 6 with fail
  go_cut [] from 27 to 42 (fun wx => Hid (AS w wx Cb Wc (fun _ => none) ∧ SR wx (Cb + 2) p3 n1 c3))
  case first =>
    by_cases h0 : n1 = 0
    · subst h0
      have HC : Hid (Calls Ybaf.prog 6 _ wc _) := sort_none p3 c3 wc
      go_wp2_with (go_at_call 6; refine HC.out.mono ?_; rintro e' w2 ⟨rfl, rfl⟩)
      go_meet
      exact HA2.out
    · obtain ⟨ha, hs⟩ := HA2.out
      rcases hs with h0' | ⟨g, rfl, hcap, hrk, hlo⟩
      · exact absurd h0' h0
      · have HC : Hid (Calls Ybaf.prog 6 _ wc _) := sort_calls g 0 n1 c3 wc wc hrk (by omega)
        have HL : Hid (n1 ≤ c3 ∧ Cb + 2 < g ∧ AS w wc Cb Wc (fun _ => none)) := ⟨hcap, hlo, ha⟩
        clear hcap hrk hlo ha HA2
        go_wp2_with (go_at_call 6; refine HC.out.mono ?_; rintro e' w2 ⟨rfl, hk⟩; have HK : Hid (RK wc w2 g 0 n1) := hk; clear hk)
        go_meet
        exact ⟨HL.out.2.2.rk HK.out HL.out.2.1, .inr ⟨g, rfl, HL.out.1, HK.out.refl, HL.out.2.1⟩⟩
  case rest =>
  clear HA2
  have HA2 : Hid (AS w wc Cb Wc (fun _ => none) ∧ SR wc (Cb + 2) p3 n1 c3) := hcut
  clear hcut
  go_upto_region 7 with fail
  go_cut [7] from 27 to 44 (fun x wx => ∃ p m c xs, x = .slice p m c ∧ m ≤ 4096 ∧ Hid (AS w wx Cb Wc (fun _ => none) ∧ OV wx p m xs))
  case first =>
    by_cases h0 : n1 < 2
    · have HC : Hid (Calls Ybaf.prog 7 _ wc _) := compact_short p3 n1 c3 wc h0
      go_wp2_with (go_at_call 7; refine HC.out.mono ?_; rintro e' w2 ⟨rfl, rfl⟩)
      go_meet
      obtain ⟨xs, hx⟩ := HA2.out.2.ov (Nat.le_refl _)
      exact ⟨p3, n1, c3, xs, rfl, by omega, HA2.out.1, hx⟩
    · obtain ⟨ha, hs⟩ := HA2.out
      rcases hs with h0' | ⟨g, rfl, hcap, hrk, hlo⟩
      · omega
      · have HC : Hid (Calls Ybaf.prog 7 _ wc _) := compact_calls g 0 n1 c3 wc wc hrk (by omega) hcap (by omega)
        have HL : Hid (n1 ≤ c3 ∧ Cb + 2 < g ∧ AS w wc Cb Wc (fun _ => none)) := ⟨hcap, hlo, ha⟩
        clear hcap hrk hlo ha HA2
        go_wp2_with (go_at_call 7; refine HC.out.mono ?_; rintro e' w2 ⟨m, rfl, hm, hk⟩; have HK : Hid (m ≤ n1 ∧ RK wc w2 g 0 n1) := ⟨hm, hk⟩; clear hm hk)
        go_meet
        have hsr : SR w2 (Cb + 2) (some ⟨g, 0, none⟩) n1 c3 := .inr ⟨g, rfl, HL.out.1, HK.out.2.refl, HL.out.2.1⟩
        obtain ⟨xs, hx⟩ := hsr.ov HK.out.1
        exact ⟨_, m, c3, xs, rfl, by have := HK.out.1; omega, HL.out.2.2.rk HK.out.2 HL.out.2.1, hx⟩
  case rest =>
  clear HA2
  obtain ⟨p, m, c, xs, rfl, hm, HA⟩ := hcut
  obtain ⟨w8, hw8⟩ : ∃ W : World, W = wc := ⟨_, rfl⟩
  rw [← hw8] at HA ⊢
  clear hw8
  obtain ⟨B, hB⟩ : ∃ B, w8.heap.size = B := ⟨_, rfl⟩
  have HB : Hid (w8.heap.size = B) := hB
  obtain ⟨w9, HW9⟩ : ∃ W : World, Hid (W = w8.alloc (.cells (madeCells #[.int .u64 0] m) 50)) := ⟨_, rfl⟩
  have HCB : Hid (Cb + 2 < B ∧ w.heap.size ≤ Cb) := ⟨by have := (Array.getElem?_eq_some_iff.1 HA.out.1.wld).1; omega, HA.out.1.ge⟩
  have HL9 : Hid (LI w w8 w9 Cb B (fun _ => none) xs 0 (.slice (some ⟨B, 0, none⟩) 0 m)) := by
    rw [HW9.out]
    refine ⟨fun b hb _ => Below.heap_alloc _ _ _ (by omega), by simp; omega, HA.out.1.base.alloc (HA.out.1.base.size) _, HA.out.1.map.keep (Below.heap_alloc _ _ _ HA.out.1.map.lt), ?_, fun i hi => absurd hi (by omega)⟩
    have := World.ownsRow_made (base := B) (e := 50) (size := 1) w8 (madeCells #[.int .u64 0] m) m (by omega) (by unfold maxLen; omega) (by rw [size_madeCells]; omega)
    rw [hB] at this
    exact this
  have hmk := make_ring m hm
  clear hB
  go_upto_block 0 with fail
  rw [HB.out, ← HW9.out]
  clear hmk HW9
  go_cut [8, 10, 11, 12, 13, 14] from 45 to 82 (fun rv x10 x11 x12 x13 x14 wx => ∃ (g c : Nat) (hm : Int → Option Nat), rv = .slice (some ⟨g, 0, none⟩) m c ∧ Hid (LI w w8 wx Cb B hm xs m rv))
  case first =>
    go_wp2_with fail
    go_loopg [8, 10, 11, 12, 13, 14, 50] m (fun g rv x10 x11 x12 x13 x14 i wr => ∃ (j q cq : Nat) (hm : Int → Option Nat), g = m - j ∧ j ≤ m ∧ i = .int .i64 j ∧ rv = .slice (some ⟨q, 0, none⟩) j cq ∧ Hid (LI w w8 wr Cb B hm xs j (.slice (some ⟨q, 0, none⟩) j cq)))
    case atStart => exact ⟨0, B, m, _, rfl, by omega, rfl, rfl, HL9⟩
    case round =>
      clear HL9
      obtain ⟨j, q, cq, hmm, rfl, hj, rfl, rfl, HL⟩ := hrel
      by_cases hjl : j < m
      · have hjl' : (j : Int) < (m : Int) := by omega
        obtain ⟨ad, hp, hcell⟩ := HL.out.ov HB.out.symm HA.out.1.map HA.out.2 (by omega)
        subst hp
        have d := hcell j hjl
        clear hcell
        have hcf : wr.heap[Cb]? = some (.cells cf5 25 (0, 0)) := (HL.out.old Cb (by have := HCB.out.1; omega) (by omega)).trans HA.out.1.cfg
        have hwl : wr.heap[Cb + 2]? = some (.cells Wc 47 (0, 0)) := (HL.out.old (Cb + 2) HCB.out.1 (by omega)).trans HA.out.1.wld
        have HCF : Hid (wr.heap[Cb]? = some (.cells cf5 25 (0, 0)) ∧ wr.heap[Cb + 2]? = some (.cells Wc 47 (0, 0))) := ⟨hcf, hwl⟩
        have k0 : wr.cell? ⟨Cb, 0, none⟩ = some (.int .i64 4) := cell_of hcf rfl
        have k1 : wr.cell? ⟨Cb, 1, none⟩ = some (.int .i64 2) := cell_of hcf rfl
        have k2 : wr.cell? ⟨Cb, 2, none⟩ = some (.int .i64 1000000000) := cell_of hcf rfl
        have k3 : wr.cell? ⟨Cb, 3, none⟩ = some (.int .i64 1000000000) := cell_of hcf rfl
        have k4 : wr.cell? ⟨Cb, 4, none⟩ = some (.bool false) := cell_of hcf rfl
        have hCl : Cb < wr.heap.size := lt_of_cell k0
        clear hcf hwl
        obtain ⟨Hb, hHb⟩ : ∃ Hb, wr.heap.size = Hb := ⟨_, rfl⟩
        have HHb : Hid (wr.heap.size = Hb) := hHb
        go_upto_region 14 with fail
        obtain ⟨wa, HWa⟩ : ∃ W : World, Hid (W = wr.alloc (.cells #[.pointer (some ⟨Cb + 2, 0, none⟩), .pointer none, .int .i64 0, .int .i64 0, .bool false, .int .i64 0, .pointer none, .slice none 0 0] 55)) := ⟨_, rfl⟩
        have hba : Below wr.heap.size wr wa := by rw [HWa.out]; exact (Below.refl _ _).alloc (Nat.le_refl _) _
        have hHa : wa.heap[Hb]? = some (.cells #[.pointer (some ⟨Cb + 2, 0, none⟩), .pointer none, .int .i64 0, .int .i64 0, .bool false, .int .i64 0, .pointer none, .slice none 0 0] 55 (0, 0)) := by rw [HWa.out]; exact new_at hHb.symm
        have hsa : wa.heap.size = Hb + 1 := by rw [HWa.out]; simp [hHb]
        rw [← HWa.out]
        replace k0 := (hba.cell (p := ⟨Cb, 0, none⟩) (lt_of_cell k0)).trans k0
        replace k1 := (hba.cell (p := ⟨Cb, 1, none⟩) (lt_of_cell k1)).trans k1
        replace k2 := (hba.cell (p := ⟨Cb, 2, none⟩) (lt_of_cell k2)).trans k2
        replace k3 := (hba.cell (p := ⟨Cb, 3, none⟩) (lt_of_cell k3)).trans k3
        replace k4 := (hba.cell (p := ⟨Cb, 4, none⟩) (lt_of_cell k4)).trans k4
        have HN : Hid (Calls Ybaf.prog 8 _ wa _) := newNode_calls (xs j) 4 2 1000000000 1000000000 false 51 (.pointer (some ⟨Hb, 0, none⟩)) wa (by omega) (by omega) (by omega) (by omega)
        have HBa : Hid (Below wr.heap.size wr wa ∧ wa.heap[Hb]? = some (.cells #[.pointer (some ⟨Cb + 2, 0, none⟩), .pointer none, .int .i64 0, .int .i64 0, .bool false, .int .i64 0, .pointer none, .slice none 0 0] 55 (0, 0)) ∧ wa.heap.size = Hb + 1) := ⟨hba, hHa, hsa⟩
        clear HWa hba hHa hsa hHb d
        go_upto_region 17 with (go_at_call 8; refine HN.out.mono ?_; rintro e' wb ⟨N, R, rfl, hN, hat, hok, hb2⟩; have HNb : Hid (wa.heap.size ≤ N ∧ wb.heap[N]? = some (.cells R 97 (0, 0)) ∧ NodeOk wa wb R (xs j) 2 51 (.pointer (some ⟨Hb, 0, none⟩)) ∧ Below wa.heap.size wa wb) := ⟨hN, hat, hok, hb2⟩; clear hN hat hok hb2)
        clear k0 k1 k2 k3 k4 HN
        have hHbb : wb.heap[Hb]? = some (.cells #[.pointer (some ⟨Cb + 2, 0, none⟩), .pointer none, .int .i64 0, .int .i64 0, .bool false, .int .i64 0, .pointer none, .slice none 0 0] 55 (0, 0)) := (HNb.out.2.2.2.block Hb (by have := HBa.out.2.2; omega)).trans HBa.out.2.1
        have s1 : wb.cell? ⟨Hb, 1, none⟩ = some (.pointer none) := cell_of hHbb rfl
        have f1 : wb.frozen? ⟨Hb, 1, none⟩ = false := frozen_of hHbb
        have HHbb : Hid (_ = _) := hHbb
        clear hHbb
        go_upto_region 18 with fail
        obtain ⟨wd, HWd⟩ : ∃ W : World, Hid (W = wb.setCell ⟨Hb, 1, none⟩ (.pointer (some ⟨N, 0, none⟩))) := ⟨_, rfl⟩
        rw [← HWd.out]
        have hsz := HHb.out
        have hbd : Below wr.heap.size wr wd := by
          rw [HWd.out]
          exact (HBa.out.1.trans (HNb.out.2.2.2.mono HBa.out.1.size)).setCell (p := ⟨Hb, 1, none⟩) (by show wr.heap.size ≤ Hb; omega) _
        have hgd : Good wd Hb := by
          obtain ⟨m1, m3, vb, hnf, _⟩ := HNb.out.2.2.1
          have hH2 := heap_setCell_same wb Hb 1 _ 55 (.pointer (some ⟨N, 0, none⟩)) HHbb.out
          rw [← HWd.out] at hH2
          refine ⟨⟨_, N, R, hH2, rfl, ?_, hnf.members, hnf.views⟩⟩
          rw [HWd.out]
          exact (Below.heap_setCell _ _ _ _ (by have := HNb.out.1; have := HBa.out.2.2; show N ≠ Hb; omega)).trans HNb.out.2.1
        have HLd : Hid (LI w w8 wd Cb B hmm xs j (.slice (some ⟨q, 0, none⟩) j cq) ∧ Good wd Hb) := ⟨HL.out.keep hbd, hgd⟩
        have hwd : wd.heap[Cb + 2]? = some (.cells Wc 47 (0, 0)) := (hbd.block _ (Array.getElem?_eq_some_iff.1 HCF.out.2).1).trans HCF.out.2
        have s27 : wd.cell? ⟨Cb + 2, 27, none⟩ = some (.map (some (Cb + 1))) := cell_of hwd HWc.out.2
        obtain ⟨we, hrun, hq2, hq3, hq4, hq5⟩ := upd_host HLd.out.1.map (xs j) Hb
        have HLe : Hid (LI w w8 we Cb B (fun y => if y = xs j then some Hb else hmm y) xs j (.slice (some ⟨q, 0, none⟩) j cq) ∧ Good we Hb) := ⟨HLd.out.1.upd (by have := HCB.out.2; omega) hq2 hq3 hq4 hq5 (.inr HLd.out.2), HLd.out.2.upd HLd.out.1.map hq3⟩
        clear hq2 hq3 hq4 hq5 hwd hgd hbd hsz s1 f1 HWd HHbb HNb HBa HHb HCF HL HLd hCl
        go_upto_region 19 with fail
        clear hrun s27
        have hbe : B ≤ we.heap.size := HLe.out.1.sz
        go_wp2_with (at_builtin; go_must (refine wpList_append_lies _ rfl (.tmp 78) (.tmp 80) 43 rfl B 50 i50 (.int .u64 0) 1 8 Ybaf.underlying43 hi50 hz0 hz1 hz2 rfl (by decide) (.slice (some ⟨q, 0, none⟩) j cq) j ((List.range j).map fun i => .int .u64 (xs i)) rfl (HLe.out.1.ring.alloc _) ⟨we.heap.size, 0, none⟩ 1 1 [.int .u64 (xs j)] rfl rfl (World.news_of_block (cs := #[.int .u64 (xs j)]) (heap_alloc_new _ _)) (by simp [Value.oneCell']) (by omega) (by unfold maxLen; omega) (by omega) (by simp; omega) _ rfl ?_); intro g2 cap2 wf hown hgrow hat hltg; have HG : Hid (wf.ownsRow B 50 1 (.slice (some ⟨g2, 0, none⟩) (j + 1) cap2) (j + 1) (((List.range j).map fun i => .int .u64 (xs i)) ++ [.int .u64 (xs j)]) ∧ (we.alloc (.cells #[.int .u64 (xs j)] 50)).grownBy wf (Value.slice (some ⟨q, 0, none⟩) j cq).ownBlock) := ⟨hown, hgrow⟩; clear hown hgrow hat hltg)
        go_roundg (m - (j + 1))
        case measure => omega
        case rel => exact ⟨j + 1, g2, cap2, _, rfl, by omega, by go_num, rfl, HLe.out.1.push (by have := HCB.out.1; omega) (by have := HCB.out; omega) ⟨Hb, by simp, HLe.out.2⟩ HG.out.1 HG.out.2⟩
      · obtain rfl : m = j := by omega
        go_wp2_with fail
        go_meet
        exact ⟨q, cq, hmm, rfl, HL⟩
  case rest =>
  clear HL9
  obtain ⟨rg, rc, hm1, rfl, HL⟩ := hcut
  go_upto_block 2 with fail
  go_cut [16, 17] from 83 to 105 (fun x16 x17 wx => ∃ hm : Int → Option Nat, Hid (LI w w8 wx Cb B hm xs m (.slice (some ⟨rg, 0, none⟩) m rc)))
  case first =>
    go_wp2_with fail
    go_loopg [16, 17, 85] n2 (fun g x16 x17 i wr => ∃ (j : Nat) (hm : Int → Option Nat), g = n2 - j ∧ j ≤ n2 ∧ i = .int .i64 j ∧ Hid (LI w w8 wr Cb B hm xs m (.slice (some ⟨rg, 0, none⟩) m rc)))
    case atStart => exact ⟨0, hm1, rfl, by omega, rfl, HL⟩
    case round =>
      clear HL
      obtain ⟨j, hmm, rfl, hj, rfl, HL⟩ := hrel
      by_cases hjl : j < n2
      · have hjl' : (j : Int) < (n2 : Int) := by omega
        obtain ⟨ad, hp, hcell⟩ := H2.out.keep HL.out.base (by omega)
        subst hp
        have d := hcell j hjl
        clear hcell
        have hwl : wr.heap[Cb + 2]? = some (.cells Wc 47 (0, 0)) := (HL.out.old (Cb + 2) HCB.out.1 (by omega)).trans HA.out.1.wld
        have s27 : wr.cell? ⟨Cb + 2, 27, none⟩ = some (.map (some (Cb + 1))) := cell_of hwl HWc.out.2
        have hlw : Cb + 2 < wr.heap.size := lt_of_cell s27
        clear hwl
        have hl := look_host HL.out.map (v2 j)
        rcases hy : hmm (v2 j) with _ | h0
        · rw [hy] at hl
          simp only [Option.map_none] at hl
          obtain ⟨wa, HWa⟩ : ∃ W : World, Hid (W = wr.alloc (.cells #[.pointer (some ⟨Cb + 2, 0, none⟩), .pointer none, .int .i64 0, .int .i64 0, .bool true, .int .i64 0, .pointer none, .slice none 0 0] 55)) := ⟨_, rfl⟩
          have hba : Below wr.heap.size wr wa := by rw [HWa.out]; exact (Below.refl _ _).alloc (Nat.le_refl _) _
          have hLa := HL.out.keep hba
          obtain ⟨we, hrun, hq2, hq3, hq4, hq5⟩ := upd_host hLa.map (v2 j) wr.heap.size
          have HLe : Hid (LI w w8 we Cb B (fun y => if y = v2 j then some wr.heap.size else hmm y) xs m (.slice (some ⟨rg, 0, none⟩) m rc)) := hLa.upd (by have := HCB.out.2; omega) hq2 hq3 hq4 hq5 (.inl fun i hi e => by obtain ⟨h, h1, _⟩ := hLa.good i hi; rw [e, hy] at h1; cases h1)
          rw [HWa.out] at hrun
          clear hq2 hq3 hq4 hq5 hLa hba hy
          go_wp2_with fail
          go_roundg (n2 - (j + 1))
          case measure => omega
          case rel => exact ⟨j + 1, _, rfl, by omega, by go_num, HLe⟩
        · rw [hy] at hl
          simp only [Option.map_some] at hl
          clear hy
          go_wp2_with fail
          go_roundg (n2 - (j + 1))
          case measure => omega
          case rel => exact ⟨j + 1, hmm, rfl, by omega, by go_num, HL⟩
      · obtain rfl : n2 = j := by omega
        go_wp2_with fail
        go_meet
        exact ⟨hmm, HL⟩
  case rest =>
  clear HL
  obtain ⟨hm2, HL⟩ := hcut
  have hwl : wc.heap[Cb + 2]? = some (.cells Wc 47 (0, 0)) := (HL.out.old (Cb + 2) HCB.out.1 (by omega)).trans HA.out.1.wld
  obtain ⟨u29, hu29⟩ := cells_of (i := 29) HWc.out.1 (by omega)
  have s29 : wc.cell? ⟨Cb + 2, 29, none⟩ = some u29 := cell_of hwl hu29
  have f29 : wc.frozen? ⟨Cb + 2, 29, none⟩ = false := frozen_of hwl
  have HWl : Hid (wc.heap[Cb + 2]? = some (.cells Wc 47 (0, 0))) := hwl
  clear hwl hu29
  go_upto_region 29 with fail
  obtain ⟨wd, HWd⟩ : ∃ W : World, Hid (W = wc.setCell ⟨Cb + 2, 29, none⟩ (.slice (some ⟨rg, 0, none⟩) m rc)) := ⟨_, rfl⟩
  obtain ⟨Wd, hWd⟩ : ∃ Wd : Array Value, Wd = Wc.setIfInBounds 29 (.slice (some ⟨rg, 0, none⟩) m rc) := ⟨_, rfl⟩
  have hws := HL.out.ws HWl.out HWc.out HCB.out.2 HCB.out.1 hm
  rw [← HWd.out, ← hWd] at hws
  have HWS : Hid (WS wd (Cb + 2) (Cb + 1) Wd hm2 (some ⟨rg, 0, none⟩) m rc xs ∧ Below w.heap.size w wd) := hws
  obtain ⟨hf, hhf⟩ : ∃ hf : Nat → Nat, ∀ i, i < m → hm2 (xs i) = some (hf i) := ⟨fun i => (hm2 (xs i)).getD 0, fun i hi => by obtain ⟨q, q1, _⟩ := hws.1.good i hi; simp [q1]⟩
  have HF : Hid (∀ i, i < m → hm2 (xs i) = some (hf i)) := hhf
  rw [← HWd.out]
  have HC : Hid (Calls Ybaf.prog 9 _ wd _) := clone_calls ⟨rg, 0, none⟩ m rc xs wd hws.1.ring (by omega)
  clear hWd HWd hws hhf s29 f29 HWl HL HA HB HCB HWc H2
  go_upto_region 30 with (go_at_call 9; refine HC.out.mono ?_; rintro e' we ⟨pc, cc, rfl, hc1, hc2, hc3⟩; have HC4 : Hid (OV we pc m xs ∧ Below wd.heap.size wd we) := ⟨hc1, hc3⟩; clear hc1 hc2 hc3)
  have HWe : Hid (WS we (Cb + 2) (Cb + 1) Wd hm2 (some ⟨rg, 0, none⟩) m rc xs ∧ Below w.heap.size w we ∧ OV we pc m xs) := ⟨HWS.out.1.keep HC4.out.2, HWS.out.2.trans (HC4.out.2.mono HWS.out.2.size), HC4.out.1⟩
  clear HC HC4 HWS
  have hmk := make_hosts m hm
  obtain ⟨K, hK⟩ : ∃ K, we.heap.size = K := ⟨_, rfl⟩
  have HK : Hid (we.heap.size = K) := hK
  obtain ⟨wf, HWf⟩ : ∃ W : World, Hid (W = we.alloc (.cells (madeCells #[.pointer none] m) 51)) := ⟨_, rfl⟩
  have HKV : Hid (KV wf K m 0 hf ∧ Below K we wf) := by rw [HWf.out]; exact ⟨KV.start hK, (Below.refl _ _).alloc (by omega) _⟩
  clear hK
  go_upto_block 4 with fail
  rw [HK.out, ← HWf.out]
  clear hmk HWf
  go_cut [20, 21] from 112 to 131 (fun x20 x21 wx => Hid (KV wx K m m hf ∧ Below K we wx))
  case first =>
    go_wp2_with fail
    go_loopg [20, 21, 117] m (fun g x20 x21 i wr => ∃ j : Nat, g = m - j ∧ j ≤ m ∧ i = .int .i64 j ∧ Hid (KV wr K m j hf ∧ Below K we wr))
    case atStart => exact ⟨0, rfl, by omega, rfl, HKV⟩
    case round =>
      clear HKV
      obtain ⟨j, rfl, hj, rfl, HJ⟩ := hrel
      by_cases hjl : j < m
      · have hjl' : (j : Int) < (m : Int) := by omega
        have hW := HWe.out.1.keep (w' := wr) (by rw [HK.out]; exact HJ.out.2)
        obtain ⟨ad, hp, hcell⟩ := hW.ring (by omega)
        cases hp
        have d := hcell j hjl
        have ha : (⟨rg, 0, none⟩ : Addr).add j = ⟨rg, j, none⟩ := by simp [Addr.add]; exact fun e => e.symm
        rw [ha] at d
        have s27 : wr.cell? ⟨Cb + 2, 27, none⟩ = some (.map (some (Cb + 1))) := cell_of hW.wld hW.hosts
        have hl := look_host hW.map (xs j)
        rw [HF.out j hjl] at hl
        simp only [Option.map_some] at hl
        obtain ⟨cs, k1, k2, k3⟩ := HJ.out.1.ex
        obtain ⟨u, hu⟩ := cells_of k2 hjl
        have p0 : wr.cell? ⟨K, j, none⟩ = some u := cell_of k1 hu
        have f0 : wr.frozen? ⟨K, j, none⟩ = false := frozen_of k1
        clear hcell ha hW k1 k2 k3 hu
        go_wp2_with fail
        go_roundg (m - (j + 1))
        case measure => omega
        case rel => exact ⟨j + 1, rfl, by omega, by go_num, HJ.out.1.push hjl, HJ.out.2.setCell (p := ⟨K, j, none⟩) (Nat.le_refl _) _⟩
      · obtain rfl : m = j := by omega
        go_wp2_with fail
        go_meet
        exact HJ.out
  case rest =>
  clear HKV
  have HKV : Hid (KV wc K m m hf ∧ Below K we wc) := hcut
  clear hcut
  have hW := HWe.out.1.keep (w' := wc) (by rw [HK.out]; exact HKV.out.2)
  have HWg : Hid (WS wc (Cb + 2) (Cb + 1) Wd hm2 (some ⟨rg, 0, none⟩) m rc xs ∧ Below w.heap.size w wc ∧ OV wc pc m xs ∧ KV wc K m m hf) := ⟨hW, HWe.out.2.1.trans (HKV.out.2.mono (by rw [← HK.out]; exact HWe.out.2.1.size)), HWe.out.2.2.keep (by rw [HK.out]; exact HKV.out.2), HKV.out.1⟩
  have s27 : wc.cell? ⟨Cb + 2, 27, none⟩ = some (.map (some (Cb + 1))) := cell_of hW.wld hW.hosts
  obtain ⟨ln, hln⟩ := hW.map.len
  have HLn : Hid (∀ W : World, W.heap[Cb + 1]? = wc.heap[Cb + 1]? → (Builtin.len_ #[35] 3 #[.map (some (Cb + 1))]).run Ybaf.prog W = .ok (.int .i64 ln) W) := hln
  have hl0 := hln wc rfl
  have HCt : Hid (Calls Ybaf.prog 10 _ wc _) := count_calls wc hW
  clear hW HKV HWe HK hln
  go_upto_region 37 with fail
  clear hl0
  go_upto_region 38 with (go_at_call 10; refine HCt.out.mono ?_; rintro e' wg ⟨rfl, hbg⟩; have HBg : Hid (Below wc.heap.size wc wg) := hbg; clear hbg)
  have HWh : Hid (WS wg (Cb + 2) (Cb + 1) Wd hm2 (some ⟨rg, 0, none⟩) m rc xs ∧ Below w.heap.size w wg ∧ OV wg pc m xs ∧ KV wg K m m hf) := ⟨HWg.out.1.keep HBg.out, HWg.out.2.1.trans (HBg.out.mono HWg.out.2.1.size), HWg.out.2.2.1.keep HBg.out, HWg.out.2.2.2.keep HBg.out⟩
  have HM : Hid (wg.heap[Cb + 1]? = wc.heap[Cb + 1]?) := HBg.out.block _ HWg.out.1.map.lt
  have HEq : Hid (Calls Ybaf.prog 11 _ wg _) := equal_calls (some ⟨rg, 0, none⟩) pc m rc cc xs wg HWh.out.1.ring HWh.out.2.2.1 (by omega)
  have s29 : wg.cell? ⟨Cb + 2, 29, none⟩ = some (.slice (some ⟨rg, 0, none⟩) m rc) := cell_of HWh.out.1.wld HWh.out.1.ringc
  clear HBg HWg HCt s27
  go_upto_if 158 with (go_at_call 11; refine HEq.out.mono ?_; rintro e' wh ⟨rfl, hbh⟩; have HBh : Hid (Below wg.heap.size wg wh) := hbh; have t27 : wh.cell? ⟨Cb + 2, 27, none⟩ = some (.map (some (Cb + 1))) := cell_of (HWh.out.1.keep hbh).wld HWh.out.1.hosts; have hl1 := HLn.out wh ((hbh.block _ HWh.out.1.map.lt).trans HM.out); clear hbh)
  have HWi : Hid (WS wh (Cb + 2) (Cb + 1) Wd hm2 (some ⟨rg, 0, none⟩) m rc xs ∧ Below w.heap.size w wh ∧ OV wh pc m xs ∧ KV wh K m m hf) := ⟨HWh.out.1.keep HBh.out, HWh.out.2.1.trans (HBh.out.mono HWh.out.2.1.size), HWh.out.2.2.1.keep HBh.out, HWh.out.2.2.2.keep HBh.out⟩
  clear HWh HBh HM HEq HLn s29 t27 hl1
  go_upto_block 6 with fail
  go_wp2_with fail
  go_loopg [24, 25, 26, 161] m (fun g x24 x25 x26 i wr => ∃ j : Nat, g = m - j ∧ j ≤ m ∧ i = .int .i64 j ∧ Hid (WS wr (Cb + 2) (Cb + 1) Wd hm2 (some ⟨rg, 0, none⟩) m rc xs ∧ Below w.heap.size w wr ∧ OV wr pc m xs ∧ KV wr K m m hf))
  case atStart => exact ⟨0, rfl, by omega, rfl, HWi⟩
  case round =>
    clear HWi
    obtain ⟨j, rfl, hj, rfl, HJ⟩ := hrel
    by_cases hjl : j < m
    · have hjl' : (j : Int) < (m : Int) := by omega
      obtain ⟨ad, hp, hcell⟩ := HJ.out.2.2.1 (by omega)
      subst hp
      have d := hcell j hjl
      have s27 : wr.cell? ⟨Cb + 2, 27, none⟩ = some (.map (some (Cb + 1))) := cell_of HJ.out.1.wld HJ.out.1.hosts
      have hl := look_host HJ.out.1.map (xs j)
      rw [HF.out j hjl] at hl
      simp only [Option.map_some] at hl
      obtain ⟨cs, k1, k2, k3⟩ := HJ.out.2.2.2.ex
      have p0 : wr.cell? ⟨K, j, none⟩ = some (.pointer (some ⟨hf j, 0, none⟩)) := cell_of k1 (k3 j hjl)
      obtain ⟨q, q1, q2⟩ := HJ.out.1.good j hjl
      rw [HF.out j hjl] at q1
      cases q1
      obtain ⟨hc, N, R, g1, g2, g3, g4, g5⟩ := q2.ex
      have s1 : wr.cell? ⟨hf j, 1, none⟩ = some (.pointer (some ⟨N, 0, none⟩)) := cell_of g1 g2
      have HL1 : Hid (Calls Ybaf.prog 12 _ wr _) := leafset_calls N wr (cell_of g3 g4)
      have HL2 : Hid (Calls Ybaf.prog 13 _ wr _) := fingers0_calls N wr (cell_of g3 g5)
      have q51 := neq51 ⟨hf j, 0, none⟩
      clear hcell k1 k2 k3 q2 g1 g2 g3 g4 g5
      go_wp2_with (first
        | (go_at_call 12; refine HL1.out.mono ?_; rintro e' w' ⟨rfl, rfl⟩)
        | (go_at_call 13; refine HL2.out.mono ?_; rintro e' w3 ⟨gg, rfl, hb3⟩; have HB3 : Hid (Below wr.heap.size wr w3) := hb3; clear hb3))
      go_roundg (m - (j + 1))
      case measure => omega
      case rel => exact ⟨j + 1, rfl, by omega, by go_num, HJ.out.1.keep HB3.out, HJ.out.2.1.trans (HB3.out.mono HJ.out.2.1.size), HJ.out.2.2.1.keep HB3.out, HJ.out.2.2.2.keep HB3.out⟩
    · obtain rfl : m = j := by omega
      go_wp2_with fail
      go_ret
      exact ⟨rfl, HJ.out.2.1⟩
end Go.Proofs.YbulkdxyaFmt
