/- answerHeld: by contract. -/
import Derived.Test.YbulkdxyaFmtHeld
namespace Go.Proofs.YbulkdxyaFmt
open Go.RowKit
set_option linter.unusedSimpArgs false
set_option linter.unusedVariables false

set_option maxRecDepth 100000 in
set_option maxHeartbeats 8000000 in
theorem held_calls (w : World) (N m1 m3 H hb k : Nat) (R : Array Value) (S : Int → Bool) (id : Int) (vp : Option Addr) (n c : Nat) (vv : Nat → Int) (hc : Array Value) (ask key rf : Nat → Int) (lk : Nat → Bool) (lv : Option Addr) (live : Bool)
    (hw : NW w N m1 m3 R S id 66 (.pointer (some ⟨H, 0, none⟩)) vp n c vv) (hq : HQ w hb k hc ask key rf lk) (hlive : (!S id || al S vv n) = live) (h254 : R[254]? = some (.pointer lv)) (h256 : R[256]? = some (.slice (some ⟨hb, 0, none⟩) k k)) (hk : k ≤ 100000) (hvb : ∀ ad, vp = some ad → ad.block < w.heap.size ∧ ad.block ≠ H)
    (hH : w.heap[H]? = some (.cells #[.slice none 0 0, .slice none 0 0] 69 (0, 0))) :
    Calls Ybaf.prog 15 #[.pointer (some ⟨N, 0, none⟩)] w fun e w' => e = .returned (.tuple #[]) ∧ ∃ ms wr, AI w wr H hb k k hc (live && lv.isNone) id (.slice vp n c) ask key rf lk ms ∧ BStep 97 N (R.setIfInBounds 256 (.slice (some ⟨hb, 0, none⟩) (keepN live k) k)) wr w' := by
  have HW : Hid (NW w N m1 m3 R S id 66 (.pointer (some ⟨H, 0, none⟩)) vp n c vv) := hw
  have HQ' : Hid (HQ w hb k hc ask key rf lk) := hq
  have HL' : Hid ((!S id || al S vv n) = live) := hlive
  have H254 : Hid (R[254]? = some (.pointer lv)) := h254
  have H256 : Hid (R[256]? = some (.slice (some ⟨hb, 0, none⟩) k k)) := h256
  have HHH : Hid (w.heap[H]? = some (.cells #[.slice none 0 0, .slice none 0 0] 69 (0, 0))) := hH
  have hlH : H < w.heap.size := (Array.getElem?_eq_some_iff.1 hH).1
  have hNH : N < w.heap.size ∧ N ≠ H := ⟨hw.nx.lt, fun e => by have h1 := hw.nx.at_; rw [e, hH] at h1; cases h1⟩
  have h1H : m1 < w.heap.size ∧ m1 ≠ H := ⟨(Array.getElem?_eq_some_iff.1 hw.pr).1, fun e => by have h1 := hw.pr; rw [e, hH] at h1; cases h1⟩
  have h3H : m3 < w.heap.size ∧ m3 ≠ H := ⟨hw.dm.lt, fun e => by obtain ⟨es, cl, h1, _⟩ := hw.dm; rw [e, hH] at h1; cases h1⟩
  have hbH : hb < w.heap.size ∧ hb ≠ H := ⟨(Array.getElem?_eq_some_iff.1 hq.at_).1, fun e => by have h1 := hq.at_; rw [e, hH] at h1; cases h1⟩
  have hNb : N ≠ hb := fun e => by have h1 := hw.nx.at_; rw [e, hq.at_] at h1; cases h1
  have HN : Hid ((N < w.heap.size ∧ N ≠ H) ∧ (m1 < w.heap.size ∧ m1 ≠ H) ∧ (m3 < w.heap.size ∧ m3 ≠ H) ∧ (hb < w.heap.size ∧ hb ≠ H) ∧ N ≠ hb ∧ ∀ ad, vp = some ad → ad.block < w.heap.size ∧ ad.block ≠ H) := ⟨hNH, h1H, h3H, hbH, hNb, hvb⟩
  have c256 := hw.nx.cell h256
  have q0 := cut95 hb k
  have HA0 : Hid (AI w w H hb k 0 hc (live && lv.isNone) id (.slice vp n c) ask key rf lk []) := ⟨Sim.refl _ _, fun _ => rfl, fun _ => ⟨⟨_, _, hH, World.ownsRow_nil _ _ _ _, World.ownsRow_nil _ _ _ _⟩, hlH⟩, fun _ i hi => absurd hi (by omega)⟩
  clear hw hq hlive h254 h256 hH hNH h1H h3H hbH hNb hvb
  go_enter Ybaf.func15, Ybaf.ntmps15
  go_upto_block 0 with fail
  go_wp2_with fail
  go_loopg [2, 4, 5, 6, 7, 18] k (fun g kp q v a b i wr => ∃ (j : Nat) (ms : List Value), g = k - j ∧ j ≤ k ∧ i = .int .i64 j ∧ (∃ L, kp = .slice (some ⟨hb, 0, none⟩) L k ∧ Hid (L = keepN live j)) ∧ Hid (AI w wr H hb k j hc (live && lv.isNone) id (.slice vp n c) ask key rf lk ms))
  case atStart => exact ⟨0, [], rfl, by omega, rfl, ⟨0, rfl, by cases live <;> rfl⟩, HA0⟩
  case round =>
    clear HA0
    obtain ⟨j, ms, rfl, hj, rfl, ⟨L, rfl, HLn⟩, HB⟩ := hrel
    have HWr : Hid (NW wr N m1 m3 R S id 66 (.pointer (some ⟨H, 0, none⟩)) vp n c vv) := HB.out.sim.nw HW.out HN.out.1 HN.out.2.1 HN.out.2.2.1 HN.out.2.2.2.2.2
    have HHr : Hid (wr.heap[hb]? = some (.cells hc 107 (0, 0))) := (HB.out.sim.old hb HN.out.2.2.2.1.1 HN.out.2.2.2.1.2).trans HQ'.out.at_
    by_cases hjl : j < k
    · have hjl' : (j : Int) < (k : Int) := by omega
      obtain ⟨e0, e1, e2, e3⟩ := HQ'.out.each j hjl
      have d0 : wr.cell? ⟨hb, j * 4, none⟩ = some (.int .u64 (ask j)) := cell_of HHr.out e0
      have d1 : wr.cell? ⟨hb, j * 4 + 1, none⟩ = some (.int .u64 (key j)) := cell_of HHr.out e1
      have d2 : wr.cell? ⟨hb, j * 4 + 2, none⟩ = some (.int .u64 (rf j)) := cell_of HHr.out e2
      have d3 : wr.cell? ⟨hb, j * 4 + 3, none⟩ = some (.bool (lk j)) := cell_of HHr.out e3
      clear e0 e1 e2 e3
      go_upto_region 4 with fail
      obtain ⟨w1, HW1⟩ : ∃ W : World, Hid (W = wr.alloc (.cells #[.int .u64 (ask j), .int .u64 (key j), .int .u64 (rf j), .bool (lk j)] 107)) := ⟨_, rfl⟩
      obtain ⟨qb, hqb⟩ : ∃ x, wr.heap.size = x := ⟨_, rfl⟩
      rw [← HW1.out, hqb]
      have hb1 : Below wr.heap.size wr w1 := by rw [HW1.out]; exact (Below.refl _ _).alloc (Nat.le_refl _) _
      have hQ1 : w1.heap[qb]? = some (.cells #[.int .u64 (ask j), .int .u64 (key j), .int .u64 (rf j), .bool (lk j)] 107 (0, 0)) := by rw [HW1.out]; exact new_at hqb.symm
      have hs1 : qb < w1.heap.size := (Array.getElem?_eq_some_iff.1 hQ1).1
      have HW' : Hid (NW w1 N m1 m3 R S id 66 (.pointer (some ⟨H, 0, none⟩)) vp n c vv) := HWr.out.keep hb1
      have HF : Hid (∀ W : World, Below w1.heap.size w1 W → W.cell? ⟨qb, 0, none⟩ = some (.int .u64 (ask j)) ∧ W.cell? ⟨qb, 1, none⟩ = some (.int .u64 (key j)) ∧ W.cell? ⟨qb, 2, none⟩ = some (.int .u64 (rf j)) ∧ W.cell? ⟨qb, 3, none⟩ = some (.bool (lk j))) := fun W hW => by
        have := (hW.block qb hs1).trans hQ1
        exact ⟨cell_of this rfl, cell_of this rfl, cell_of this rfl, cell_of this rfl⟩
      have HB1 : Hid (Below wr.heap.size wr w1) := hb1
      have k1 : w1.cell? ⟨qb, 1, none⟩ = some (.int .u64 (key j)) := cell_of hQ1 rfl
      clear hb1 hQ1 d0 d1 d2 d3 HW1
      go_cut [5, 6, 7, 18] from 18 to 56 (fun s5 s6 s7 s18 wx => ∃ ab, s18 = .int .i64 j ∧ s6 = .pointer (some ⟨ab, 0, none⟩) ∧ s7 = .bool live ∧ Hid (wx.heap[ab]? = some (.cells #[.int .u64 id, .slice vp n c, .int .i64 0, .int .i64 0, .bool true] 123 (0, 0)) ∧ w1.heap.size ≤ ab ∧ Below w1.heap.size w1 wx))
      case first =>
        have b0 : Below w1.heap.size w1 w1.drew := (Below.refl _ _).drew
        have b1 : ∀ o, Below w1.heap.size w1 (w1.alloc o).drew := fun o => ((Below.refl _ _).alloc (Nat.le_refl _) o).drew
        have k1a : ∀ o, (w1.alloc o).cell? ⟨qb, 1, none⟩ = some (.int .u64 (key j)) := fun o => (((Below.refl w1.heap.size w1).alloc (Nat.le_refl _) o).cell (p := ⟨qb, 1, none⟩) hs1).trans k1
        go_region_with (first
          | (go_at_call 23; refine (mid_closest HW'.out (W := _) (by first | exact b0 | exact b1 _) (key j)).mono ?_; rintro e' w2 ⟨bb, rfl, hbb, hb2, hb2'⟩; (try (have ha2 : w2.heap[w1.heap.size]? = some (.cells arc0 123 (0, 0)) := (hb2'.block w1.heap.size (by simp)).trans (heap_alloc_new w1 _))); have k12 : w2.cell? ⟨qb, 1, none⟩ = some (.int .u64 (key j)) := (HF.out w2 hb2).2.1; have hs2 : qb < w2.heap.size := lt_of_cell k12; have HB2 : Hid (w2.heap[bb]? = some (.cells #[.int .u64 id] 50 (0, 0)) ∧ Below w1.heap.size w1 w2) := ⟨hbb, hb2⟩; have hle2 : w1.heap.size ≤ w2.heap.size := hb2.size; clear hbb hb2 hb2')
          | (go_at_call 22; refine (mid_answers HW'.out (W := _) (bb := bb) (by first | exact HB2.out.2 | exact HB2.out.2.alloc HB2.out.2.size _) (by first | exact HB2.out.1 | exact (Below.heap_alloc _ _ _ (Array.getElem?_eq_some_iff.1 HB2.out.1).1).trans HB2.out.1) (key j)).mono ?_; rintro e' w3 ⟨v3, rfl, hb3, hb3'⟩; have HB3 : Hid (Below w1.heap.size w1 w3) := hb3; (try (have ha3 : w3.heap[w1.heap.size]? = some (.cells arc0 123 (0, 0)) := (hb3'.block w1.heap.size (Array.getElem?_eq_some_iff.1 ha2).1).trans ha2; obtain ⟨⟨g0, g1, g2, g3, g4⟩, r0, r1, r2, r3, r4⟩ := arc_zero ha3; have HA3 : Hid (w3.heap[w1.heap.size]? = some (.cells arc0 123 (0, 0))) := ha3; clear ha3)); (try (have ha3 : w3.heap[w2.heap.size]? = some (.cells arc0 123 (0, 0)) := (hb3'.block w2.heap.size (by simp)).trans (heap_alloc_new w2 _); obtain ⟨⟨g0, g1, g2, g3, g4⟩, r0, r1, r2, r3, r4⟩ := arc_zero ha3; have HA3 : Hid (w3.heap[w2.heap.size]? = some (.cells arc0 123 (0, 0))) := ha3; clear ha3)); clear hb3 hb3'))
        all_goals go_wp2_with fail
        all_goals go_meet
        all_goals first
          | (have hst := (((((BStep.refl HA3.out).set 0 (.int .u64 id)).set 1 (.slice vp n c)).set 2 (.int .i64 0)).set 3 (.int .i64 0)).set 4 (.bool true); simp at hst; exact ⟨_, rfl, rfl, by rw [HL'.out], hst.par, by omega, HB3.out.trans (hst.below _ (by omega))⟩)
          | exact ⟨w3.heap.size, rfl, rfl, by rw [HL'.out], new_at rfl, HB3.out.size, HB3.out.alloc HB3.out.size _⟩
      case rest =>
      obtain ⟨ab, rfl, rfl, rfl, HC⟩ := hcut
      obtain ⟨p0, p1, p2, p3⟩ := HF.out wc HC.out.2.2
      cases live with
      | false =>
        obtain rfl : L = j := HLn.out
        have hbw : wc.heap[hb]? = some (.cells hc 107 (0, 0)) := (HC.out.2.2.block hb (Array.getElem?_eq_some_iff.1 ((HB1.out.block hb (Array.getElem?_eq_some_iff.1 HHr.out).1).trans HHr.out)).1).trans ((HB1.out.block hb (Array.getElem?_eq_some_iff.1 HHr.out).1).trans HHr.out)
        obtain ⟨e0, e1, e2, e3⟩ := HQ'.out.each L hjl
        have b0 : wc.cell? ⟨hb, L * 4, none⟩ = some (.int .u64 (ask L)) := cell_of hbw e0
        have b1 : wc.cell? ⟨hb, L * 4 + 1, none⟩ = some (.int .u64 (key L)) := cell_of hbw e1
        have b2 : wc.cell? ⟨hb, L * 4 + 2, none⟩ = some (.int .u64 (rf L)) := cell_of hbw e2
        have b3 : wc.cell? ⟨hb, L * 4 + 3, none⟩ = some (.bool (lk L)) := cell_of hbw e3
        have f0 : wc.frozen? ⟨hb, L * 4, none⟩ = false := frozen_of hbw
        have f1 : wc.frozen? ⟨hb, L * 4 + 1, none⟩ = false := frozen_of hbw
        have f2 : wc.frozen? ⟨hb, L * 4 + 2, none⟩ = false := frozen_of hbw
        have f3 : wc.frozen? ⟨hb, L * 4 + 3, none⟩ = false := frozen_of hbw
        have hbl := (Array.getElem?_eq_some_iff.1 hbw).1
        have HBW : Hid (wc.heap[hb]? = some (.cells hc 107 (0, 0))) := hbw
        clear hbw e0 e1 e2 e3
        go_wp2_with fail
        go_roundg (k - (L + 1))
        case measure => omega
        case rel =>
        obtain ⟨e0, e1, e2, e3⟩ := HQ'.out.each L hjl
        refine ⟨L + 1, ms, rfl, by omega, by go_num, ⟨L + 1, rfl, rfl⟩, ?_⟩
        refine AI.skip (AI.keep HB.out ?_ hlH)
        rw [setQ HBW.out e0 e1 e2 e3]
        exact ((HB1.out.trans (HC.out.2.2.mono HB1.out.size)).alloc (by have := HB1.out.size; have := HC.out.2.2.size; omega) _)
      | true =>
        obtain rfl : L = 0 := HLn.out
        have a1 : wc.cell? ⟨ab, 1, none⟩ = some (.slice vp n c) := cell_of HC.out.1 rfl
        have a2 : wc.cell? ⟨ab, 2, none⟩ = some (.int .i64 0) := cell_of HC.out.1 rfl
        have a3 : wc.cell? ⟨ab, 3, none⟩ = some (.int .i64 0) := cell_of HC.out.1 rfl
        have a4 : wc.cell? ⟨ab, 4, none⟩ = some (.bool true) := cell_of HC.out.1 rfl
        have HWc : Hid (∀ o, NW (wc.alloc o) N m1 m3 R S id 66 (.pointer (some ⟨H, 0, none⟩)) vp n c vv) := fun o => (HW'.out.keep HC.out.2.2).keep ((Below.refl _ _).alloc (Nat.le_refl _) o)
        have HBo : Hid (∀ o, Below wr.heap.size wr (wc.alloc o)) := fun o => ((HB1.out.trans (HC.out.2.2.mono HB1.out.size)).alloc (by have := HB1.out.size; have := HC.out.2.2.size; omega) _)
        cases lv with
        | some la =>
          go_wp2_with (go_at_call 24; refine (send_left N wc.heap.size _ (rf j) (key j) (lk j) (.slice vp n c) la _ ((HWc.out _).nx.cell H254.out) (cell_of (heap_alloc_new wc _) rfl)).mono ?_; rintro e' w2 ⟨rfl, rfl⟩)
          go_roundg (k - (j + 1))
          case measure => omega
          case rel => exact ⟨j + 1, ms, rfl, by omega, by go_num, ⟨0, rfl, rfl⟩, AI.skip (AI.keep HB.out (HBo.out _) hlH)⟩
        | none =>
          have hlen : ms.length = j := by
            obtain ⟨tv, mv, _, _, h3⟩ := (HB.out.host rfl).ex
            have := h3.1
            omega
          have HMl : Hid (ms.length = j) := hlen
          obtain ⟨W, HWW⟩ : ∃ W : World, Hid (W = wc.alloc (.cells (msg 0 (lk j) (rf j) (key j) (.slice vp n c)) 112)) := ⟨_, rfl⟩
          obtain ⟨W2, HW2⟩ : ∃ W2 : World, Hid (W2 = (W.setCell ⟨wc.heap.size, 1, none⟩ (.int .u64 id)).setCell ⟨wc.heap.size, 2, none⟩ (.bool false)) := ⟨_, rfl⟩
          have hm0 : W.heap[wc.heap.size]? = some (.cells (msg 0 (lk j) (rf j) (key j) (.slice vp n c)) 112 (0, 0)) := by rw [HWW.out]; exact heap_alloc_new wc _
          have hst := ((BStep.refl hm0).set 1 (.int .u64 id)).set 2 (.bool false)
          rw [← HW2.out] at hst
          simp at hst
          have hbW : Below wr.heap.size wr W := by rw [HWW.out]; exact HBo.out _
          have hwrc : wr.heap.size ≤ wc.heap.size := by have := HB1.out.size; have := HC.out.2.2.size; omega
          have hb2 : Below wr.heap.size wr W2 := hbW.trans (hst.below _ hwrc)
          have hwwr := HB.out.sim.sz
          have HNW : Hid (NW W N m1 m3 R S id 66 (.pointer (some ⟨H, 0, none⟩)) vp n c vv) := by rw [HWW.out]; exact HWc.out _
          have HAk := AI.keep HB.out hb2 hlH
          have hS := Send_calls w.heap.size H j wc.heap.size (ask j) _ ms W2 (HAk.host rfl) HAk.sim.sz (by omega)
          have hNn : N ≠ wc.heap.size := by have := HN.out.1.1; omega
          have HCall : Hid (Calls Ybaf.prog 24 _ W _) := send_on N wc.heap.size H id (ask j) (rf j) (key j) (lk j) (.slice vp n c) W (HNW.out.nx.cell H254.out) (HNW.out.nx.cell HNW.out.nx.nf.id0) (HNW.out.nx.cell HNW.out.nx.nf.active) (HNW.out.nx.cell HNW.out.nx.nf.host) hm0 hNn (fun a w3 => AI w w3 H hb k (j + 1) hc true id (.slice vp n c) ask key rf lk (ms ++ [.pointer (some ⟨wc.heap.size, 0, none⟩)])) (by
            rw [← HW2.out]
            refine hS.mono ?_
            rintro e' w3 ⟨rfl, hs⟩
            exact ⟨rfl, AI.push HB.out hb2 hlH hst.par (by omega) hs HMl.out⟩)
          rw [HWW.out] at HCall
          clear hm0 hst hbW hb2 hwwr HNW HAk hS hlen HWW HW2
          go_wp2_with (go_at_call 24; refine HCall.out.mono ?_; rintro e' w3 ⟨rfl, hr⟩; have HR : Hid (AI w w3 H hb k (j + 1) hc true id (.slice vp n c) ask key rf lk (ms ++ [.pointer (some ⟨wc.heap.size, 0, none⟩)])) := hr; clear hr)
          go_roundg (k - (j + 1))
          case measure => omega
          case rel => exact ⟨j + 1, _, rfl, by omega, by go_num, ⟨0, rfl, rfl⟩, HR⟩
    · obtain rfl : j = k := by omega
      have d256 := HWr.out.nx.cell H256.out
      have f256 : wr.frozen? ⟨N, 256, none⟩ = false := frozen_of HWr.out.nx.at_
      go_wp2_with fail
      go_end0
      refine ⟨rfl, ms, wr, HB.out, ?_⟩
      rw [← HLn.out]
      exact (BStep.refl HWr.out.nx.at_).set 256 _
end Go.Proofs.YbulkdxyaFmt
