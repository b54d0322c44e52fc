/- The law on held queries: her walk. -/
import Derived.Test.YbulkdxyaFmtLs
import Derived.Test.YbulkdxyaFmtAnswer
namespace Go.Proofs.YbulkdxyaFmt
open Go.RowKit
set_option linter.unusedSimpArgs false
set_option linter.unusedVariables false


set_option maxRecDepth 100000 in
set_option maxHeartbeats 8000000 in
theorem lawC_calls (id mask : Int) (sd lv : Bool) (vp : Option Addr) (n c : Nat) (vv : Nat → Int) (hp : Option Addr) (k hcap : Nat) (ask key rf : Nat → Int) (lk : Nat → Bool) (w : World) (hV : OV w vp n vv) (hH : HI w hp k ask key rf lk) :
    Calls Ybaf.prog 4 #[.int .u64 id, .slice vp n c, .int .u64 mask, .bool sd, .bool lv, .slice hp k hcap] w fun e w' => e = .returned (.bool true) ∧ Below w.heap.size w w' := by
  have HV : Hid (OV w vp n vv) := hV
  have HHI : Hid (HI w hp k ask key rf lk) := hH
  clear hV hH
  by_cases hn : 4096 < n
  · have hn' : (4096 : Int) < (n : Int) := by omega
    go_enter Ybaf.func4, Ybaf.ntmps4
    go_wp2_with fail
    go_ret
    exact ⟨rfl, Below.refl _ _⟩
  by_cases hk : 65536 < k
  · have hn' : ¬ (4096 : Int) < (n : Int) := by omega
    have hk' : (65536 : Int) < (k : Int) := by omega
    go_enter Ybaf.func4, Ybaf.ntmps4
    go_wp2_with fail
    go_ret
    exact ⟨rfl, Below.refl _ _⟩
  have hn' : ¬ (4096 : Int) < (n : Int) := by omega
  have hk' : ¬ (65536 : Int) < (k : Int) := by omega
  have hmk := make_ids n (by omega)
  obtain ⟨H, hH⟩ : ∃ H, w.heap.size = H := ⟨_, rfl⟩
  have HH : Hid (w.heap.size = H) := hH
  obtain ⟨w1, HW1⟩ : ∃ W : World, Hid (W = w.alloc (.cells #[.slice none 0 0, .slice none 0 0] 69)) := ⟨_, rfl⟩
  have h1 : w1.heap[H]? = some (.cells #[.slice none 0 0, .slice none 0 0] 69 (0, 0)) := by rw [HW1.out]; exact new_at hH.symm
  have hs1 : w1.heap.size = H + 1 := by rw [HW1.out]; simp [hH]
  have HB1 : Hid (Below w.heap.size w w1 ∧ w1.heap[H]? = some (.cells #[.slice none 0 0, .slice none 0 0] 69 (0, 0)) ∧ w1.heap.size = H + 1) := ⟨by rw [HW1.out]; exact (Below.refl _ _).alloc (Nat.le_refl _) _, h1, hs1⟩
  have HNew : Hid (Calls Ybaf.prog 8 _ w1 _) := newNode_calls id 1 1 1 0 false 66 (.pointer (some ⟨H, 0, none⟩)) w1 (by omega) (by omega) (by omega) (by omega)
  clear h1 hs1 hH
  go_enter Ybaf.func4, Ybaf.ntmps4
  go_upto_region 4 with fail
  rw [HH.out, ← HW1.out]
  go_upto_region 7 with (go_at_call 8; refine HNew.out.mono ?_; rintro e' w2 ⟨N, R, rfl, hN, hat, hok, hb2⟩; have HN : Hid (w1.heap.size ≤ N ∧ w2.heap[N]? = some (.cells R 97 (0, 0)) ∧ NodeOk w1 w2 R id 1 66 (.pointer (some ⟨H, 0, none⟩)) ∧ Below w1.heap.size w1 w2) := ⟨hN, hat, hok, hb2⟩; clear hN hat hok hb2)
  obtain ⟨m1, m3, vb, hnf, hR21, hR254, hR256, hne, ⟨g1, e1, hg1, hm1⟩, ⟨g3, e3, hg3, hm3⟩⟩ := HN.out.2.2.1
  cases e1
  cases e3
  obtain ⟨B, hB⟩ : ∃ B, w2.heap.size = B := ⟨_, rfl⟩
  have HSS : Hid (SS w w2 B H N m1 m3 R (fun _ => false) id) := by
    obtain ⟨b1, b2, b3⟩ := HB1.out
    obtain ⟨n1, n2, _, n3⟩ := HN.out
    have := HH.out
    have l1 := (Array.getElem?_eq_some_iff.1 hm1).1
    have l3 := (Array.getElem?_eq_some_iff.1 hm3).1
    have lN := (Array.getElem?_eq_some_iff.1 n2).1
    have lH := n3.size
    exact ⟨⟨n2, hnf⟩, hm1, DMap.empty hm3, (n3.block H (by omega)).trans b2, b1.trans (n3.mono (by omega)), ⟨by omega, by omega, by omega, by omega⟩, ⟨by omega, by omega, by omega, by omega⟩, hne, by omega⟩
  have HR : Hid (R.size = 257 ∧ R[254]? = some (.pointer none)) := ⟨hnf.size, hR254⟩
  clear hnf hR21 hR254 hR256 hne hg1 hm1 hg3 hm3 HN HNew HB1 HW1
  obtain ⟨w3, HW3⟩ : ∃ W : World, Hid (W = w2.alloc (.cells (madeCells #[.int .u64 0] n) 50)) := ⟨_, rfl⟩
  have HRV : Hid (RV w3 B n 0 vv) := by rw [HW3.out]; exact rv_start hB
  have HB3 : Hid (Below B w2 w3 ∧ w3.heap.size = B + 1) := by rw [HW3.out]; exact ⟨(Below.refl _ _).alloc (by omega) _, by simp [hB]⟩
  have HS2 : Hid (w2.heap.size = B) := hB
  clear hB
  go_upto_block 0 with fail
  rw [HS2.out, ← HW3.out]
  clear hmk HW3
  go_wp2_with fail
  go_loopg [17, 61] n (fun g i x wr => ∃ j : Nat, g = n - j ∧ j ≤ n ∧ x = .int .i64 j ∧ Hid (RV wr B n j vv ∧ Below B w2 wr))
  case atStart => exact ⟨0, rfl, by omega, rfl, HRV.out, HB3.out.1⟩
  case round =>
    clear HRV
    obtain ⟨j, rfl, hj, rfl, HL⟩ := hrel
    by_cases hjl : j < n
    · have hjl' : (j : Int) < (n : Int) := by omega
      obtain ⟨ad, hvp, hcell⟩ := HV.out.keep (HSS.out.base.trans (HL.out.2.mono (by have := HSS.out.base.size; rw [← HS2.out]; exact this))) (by omega)
      subst hvp
      have d := hcell j hjl
      obtain ⟨⟨u, hu⟩, hfz⟩ := HL.out.1.place hjl
      clear hcell
      go_wp2_with fail
      go_roundg (n - (j + 1))
      case measure => omega
      case rel => exact ⟨j + 1, rfl, by omega, by go_num, HL.out.1.push hjl, HL.out.2.setCell (p := ⟨B, j, none⟩) (Nat.le_refl _) _⟩
    · obtain rfl : n = j := by omega
      clear hjl hj
      have hov := HL.out.1.ov
      have hbz : B < wr.heap.size := by obtain ⟨cs, q, _⟩ := HL.out.1.ex; exact (Array.getElem?_eq_some_iff.1 q).1
      have HSw : Hid (SS w wr B H N m1 m3 R (fun _ => false) id) := HSS.out.down HL.out.2
      have HC : Hid (Calls Ybaf.prog 9 _ wr _) := clone_calls ⟨B, 0, none⟩ n n vv wr hov (by omega)
      have HOV : Hid (OV wr (some ⟨B, 0, none⟩) n vv) := hov
      clear hov HSS HL HB3 HS2
      go_upto_region 14 with (go_at_call 9; refine HC.out.mono ?_; rintro e' w4 ⟨pc, cc, rfl, hc1, hc2, hc3⟩; have HC4 : Hid (OV w4 pc n vv ∧ (∀ a, pc = some a → wr.heap.size ≤ a.block) ∧ Below wr.heap.size wr w4) := ⟨hc1, hc2, hc3⟩; clear hc1 hc2 hc3)
      have HL4 : Hid (LS w w4 B H N m1 m3 R (fun _ => false) id n vv pc) := ⟨HSw.out.keep HC4.out.2.2, HOV.out.keep HC4.out.2.2, HC4.out.1, fun ad e => by have := HC4.out.2.1 ad e; omega, Nat.lt_of_lt_of_le hbz HC4.out.2.2.size⟩
      clear HSw HOV HC4 hbz HC
      obtain ⟨u21, hu21⟩ : ∃ u, R[21]? = some u := ⟨_, Array.getElem?_eq_getElem (by rw [HR.out.1]; omega)⟩
      have c21 := HL4.out.ss.cell hu21
      have f21 := HL4.out.ss.fz 21
      clear hu21
      go_upto_if 79 with fail
      obtain ⟨w5, HW5⟩ : ∃ W : World, Hid (W = w4.setCell ⟨N, 21, none⟩ (.slice (some ⟨B, 0, none⟩) n n)) := ⟨_, rfl⟩
      obtain ⟨R1, HR1⟩ : ∃ R1 : Array Value, Hid (R1 = R.setIfInBounds 21 (.slice (some ⟨B, 0, none⟩) n n)) := ⟨_, rfl⟩
      have HL5 : Hid (LS w w5 B H N m1 m3 R1 (fun _ => false) id n vv pc) := by rw [HW5.out, HR1.out]; exact HL4.out.set (.inl rfl) _
      have HRR : Hid (R1.size = 257 ∧ R1[21]? = some (.slice (some ⟨B, 0, none⟩) n n) ∧ R1[254]? = some (.pointer none)) := by
        rw [HR1.out]
        exact ⟨by simp [HR.out.1], Array.getElem?_setIfInBounds_self_of_lt (by rw [HR.out.1]; omega), (Array.getElem?_setIfInBounds_ne (by omega)).trans HR.out.2⟩
      rw [← HW5.out]
      clear HW5 HR1 HL4 HR c21 f21
      go_cut [] from 80 to 85 (fun wx => Hid (LS w wx B H N m1 m3 R1 (SD id sd vv mask 0) id n vv pc))
      case first =>
        have c39 := HL5.out.ss.cell HL5.out.ss.nx.nf.dead
        cases sd with
        | false =>
          go_wp2_with fail
          go_meet
          exact HL5.out.as (fun y => by simp [SD])
        | true =>
          obtain ⟨w6, hrun, h6⟩ := HL5.out.dead id
          have H6 : Hid (LS w w6 B H N m1 m3 R1 (fun y => false || y == id) id n vv pc) := h6
          clear h6
          go_wp2_with fail
          go_meet
          exact H6.out.as (fun y => by simp [SD])
      case rest =>
      have HL6 : Hid (LS w wc B H N m1 m3 R1 (SD id sd vv mask 0) id n vv pc) := hcut
      clear hcut HL5
      go_upto_block 2 with fail
      go_cut [19] from 86 to 110 (fun i wx => Hid (LS w wx B H N m1 m3 R1 (SD id sd vv mask (min n 64)) id n vv pc))
      case first =>
        go_wp2_with fail
        go_loopg [19] n (fun g i wr => ∃ j : Nat, g = n - j ∧ j ≤ n ∧ j ≤ 64 ∧ i = .int .i64 j ∧ Hid (LS w wr B H N m1 m3 R1 (SD id sd vv mask j) id n vv pc))
        case atStart => exact ⟨0, rfl, by omega, by omega, rfl, HL6⟩
        case round =>
          clear HL6
          obtain ⟨j, rfl, hj, hj64, rfl, HJ⟩ := hrel
          by_cases h1 : j < n
          · by_cases h2 : j < 64
            · rcases hb : bt mask j with _ | _
              · have HB' : Hid (bt mask j = false) := hb
                have hb' : (bits BinOp.and IntKind.u64 (mask / 2 ^ j) 1 == 1) = false := hb
                clear hb
                go_wp2_with fail
                go_roundg (n - (j + 1))
                case measure => omega
                case rel => exact ⟨j + 1, rfl, by omega, by omega, by go_num, HJ.out.as (fun y => by rw [SD, HB'.out]; simp)⟩
              · have HB' : Hid (bt mask j = true) := hb
                have hb' : (bits BinOp.and IntKind.u64 (mask / 2 ^ j) 1 == 1) = true := hb
                clear hb
                have HJd := HJ.out.keep (Below.refl _ _).drew
                obtain ⟨w6, hrun, h6⟩ := HJd.dead (vv j)
                have H6 : Hid (LS w w6 B H N m1 m3 R1 (fun y => SD id sd vv mask j y || y == vv j) id n vv pc) := h6
                have c39 := HJ.out.ss.cell HJ.out.ss.nx.nf.dead
                have d := HJ.out.at j h1
                clear h6 HJd
                go_upto_region 21 with fail
                go_region
                all_goals go_wp2_with fail
                all_goals go_roundg (n - (j + 1))
                case measure => omega
                case rel => exact ⟨j + 1, rfl, by omega, by omega, by go_num, H6.out.as (fun y => by rw [SD, HB'.out]; simp)⟩
            · obtain rfl : j = 64 := by omega
              go_wp2_with fail
              go_meet
              exact HJ.out.as (fun y => by rw [show min n 64 = 64 by omega])
          · obtain rfl : n = j := by omega
            go_wp2_with fail
            go_meet
            exact HJ.out.as (fun y => by rw [show min n 64 = n by omega])
      case rest =>
      have HL7 : Hid (LS w wc B H N m1 m3 R1 (SD id sd vv mask (min n 64)) id n vv pc) := hcut
      clear hcut HL6
      obtain ⟨S, HSD⟩ : ∃ S : Int → Bool, Hid (S = SD id sd vv mask (min n 64)) := ⟨_, rfl⟩
      rw [← HSD.out] at HL7
      go_upto_if 111 with fail
      go_cut [] from 112 to 116 (fun wx => ∃ (R2 : Array Value) (la : Option Addr), Hid (LS w wx B H N m1 m3 R2 S id n vv pc ∧ R2.size = 257 ∧ R2[21]? = some (.slice (some ⟨B, 0, none⟩) n n) ∧ R2[254]? = some (.pointer la) ∧ la.isNone = !lv))
      case first =>
        have c254 := HL7.out.ss.cell HRR.out.2.2
        have f254 := HL7.out.ss.fz 254
        cases lv with
        | false =>
          go_wp2_with fail
          go_meet
          exact ⟨R1, none, HL7.out, HRR.out.1, HRR.out.2.1, HRR.out.2.2, rfl⟩
        | true =>
          have hlN := HL7.out.ss.nx.lt
          go_wp2_with fail
          go_meet
          refine ⟨R1.setIfInBounds 254 _, some _, (HL7.out.set (.inr (.inl rfl)) _).keep ((Below.refl _ _).alloc (Nat.le_refl _) _), by simp [HRR.out.1], (Array.getElem?_setIfInBounds_ne (by omega)).trans HRR.out.2.1, Array.getElem?_setIfInBounds_self_of_lt (by rw [HRR.out.1]; omega), rfl⟩
      case rest =>
      obtain ⟨R2, la, HL8⟩ := hcut
      clear HL7 HRR
      obtain ⟨Q, hQ⟩ : ∃ Q, wc.heap.size = Q := ⟨_, rfl⟩
      have HQz : Hid (wc.heap.size = Q) := hQ
      obtain ⟨Zc, hzs, hmk⟩ := make_held k (by omega)
      obtain ⟨w9, HW9⟩ : ∃ W : World, Hid (W = wc.alloc (.cells Zc 107)) := ⟨_, rfl⟩
      have HQV : Hid (QV w9 Q k 0 ask key rf lk) := by rw [HW9.out]; exact qv_start hzs hQ
      have HL9 : Hid (LS w w9 B H N m1 m3 R2 S id n vv pc) := by rw [HW9.out]; exact HL8.out.1.keep ((Below.refl _ _).alloc (Nat.le_refl _) _)
      have HBQ : Hid (B < Q ∧ (∀ ad, pc = some ad → 0 < n → ad.block < Q) ∧ w.heap.size ≤ Q) := by
        have h1 := HL8.out.1.lt
        have h2 := HL8.out.1.ss.base.size
        refine ⟨by omega, fun ad e hn0 => ?_, by omega⟩
        obtain ⟨ad', e', q⟩ := HL8.out.1.vc hn0
        rw [e] at e'
        cases e'
        have := lt_of_cell (q 0 hn0)
        rw [add_block] at this
        omega
      have HR2 : Hid (R2.size = 257 ∧ R2[21]? = some (.slice (some ⟨B, 0, none⟩) n n) ∧ R2[254]? = some (.pointer la) ∧ la.isNone = !lv) := HL8.out.2
      clear hQ hzs HL8
      go_upto_block 4 with fail
      rw [HQz.out, ← HW9.out]
      clear hmk HW9
      go_cut [20, 21, 22] from 122 to 139 (fun s20 s21 s22 wx => s20 = .slice (some ⟨Q, 0, none⟩) k k ∧ Hid (LS w wx B H N m1 m3 R2 S id n vv pc ∧ QV wx Q k k ask key rf lk))
      case first =>
        go_wp2_with fail
        go_loopg [21, 22, 122] k (fun g x y i wr => ∃ j : Nat, g = k - j ∧ j ≤ k ∧ i = .int .i64 j ∧ Hid (LS w wr B H N m1 m3 R2 S id n vv pc ∧ QV wr Q k j ask key rf lk))
        case atStart => exact ⟨0, rfl, by omega, rfl, HL9.out, HQV.out⟩
        case round =>
          clear HL9 HQV
          obtain ⟨j, rfl, hj, rfl, HJ⟩ := hrel
          by_cases hjl : j < k
          · have hjl' : (j : Int) < (k : Int) := by omega
            obtain ⟨hpb, hpo, hvp, hcell⟩ := HHI.out.keep HJ.out.1.ss.base (by omega)
            subst hvp
            obtain ⟨d0, d1, d2, d3⟩ := hcell j hjl
            clear hcell
            have HJa : Hid (∀ o, LS w (wr.alloc o) B H N m1 m3 R2 S id n vv pc ∧ QV (wr.alloc o) Q k j ask key rf lk) := fun o => ⟨HJ.out.1.keep ((Below.refl _ _).alloc (Nat.le_refl _) _), HJ.out.2.keep ((Below.refl _ _).alloc (Nat.le_refl _) _)⟩
            obtain ⟨⟨x0, p0⟩, ⟨x1, p1⟩, ⟨x2, p2⟩, ⟨x3, p3⟩, hfz⟩ := HJ.out.2.place hjl
            have q0 := hfz (j * 4)
            have q1 := hfz (j * 4 + 1)
            have q2 := hfz (j * 4 + 2)
            have q3 := hfz (j * 4 + 3)
            clear hfz
            have hQw : Q < wr.heap.size := lt_of_cell p0
            go_wp2_with fail
            go_roundg (k - (j + 1))
            case measure => omega
            case rel =>
              refine ⟨j + 1, rfl, by omega, by go_num, ?_, ?_⟩
              · exact (HJ.out.1.down HBQ.out.1 HBQ.out.2.1 ((((Below.refl Q wr).setCell (p := ⟨Q, j * 4, none⟩) (Nat.le_refl _) _).setCell (p := ⟨Q, j * 4 + 1, none⟩) (Nat.le_refl _) _).setCell (p := ⟨Q, j * 4 + 2, none⟩) (Nat.le_refl _) _ |>.setCell (p := ⟨Q, j * 4 + 3, none⟩) (Nat.le_refl _) _)).keep ((Below.refl _ _).alloc (Nat.le_refl _) _)
              · exact (HJ.out.2.push hjl).keep ((Below.refl _ _).alloc (Nat.le_refl _) _)
          · obtain rfl : k = j := by omega
            go_wp2_with fail
            go_meet
            exact ⟨rfl, HJ.out⟩
      case rest =>
      obtain ⟨rfl, HLa⟩ := hcut
      clear HL9 HQV
      obtain ⟨u256, hu256⟩ : ∃ u, R2[256]? = some u := ⟨_, Array.getElem?_eq_getElem (by rw [HR2.out.1]; omega)⟩
      have c256 := HLa.out.1.ss.cell hu256
      have f256 := HLa.out.1.ss.fz 256
      clear hu256
      go_upto_region 31 with fail
      obtain ⟨wb, HWb⟩ : ∃ W : World, Hid (W = wc.setCell ⟨N, 256, none⟩ (.slice (some ⟨Q, 0, none⟩) k k)) := ⟨_, rfl⟩
      obtain ⟨R3, HR3⟩ : ∃ R3 : Array Value, Hid (R3 = R2.setIfInBounds 256 (.slice (some ⟨Q, 0, none⟩) k k)) := ⟨_, rfl⟩
      have HLb : Hid (LS w wb B H N m1 m3 R3 S id n vv pc) := by rw [HWb.out, HR3.out]; exact HLa.out.1.set (.inr (.inr rfl)) _
      have hRR : R3[21]? = some (.slice (some ⟨B, 0, none⟩) n n) ∧ R3[254]? = some (.pointer la) ∧ R3[256]? = some (.slice (some ⟨Q, 0, none⟩) k k) := by
        rw [HR3.out]
        exact ⟨(Array.getElem?_setIfInBounds_ne (by omega)).trans HR2.out.2.1, (Array.getElem?_setIfInBounds_ne (by omega)).trans HR2.out.2.2.1, Array.getElem?_setIfInBounds_self_of_lt (by rw [HR2.out.1]; omega)⟩
      have HRR : Hid (R3[21]? = some (.slice (some ⟨B, 0, none⟩) n n) ∧ R3[254]? = some (.pointer la) ∧ R3[256]? = some (.slice (some ⟨Q, 0, none⟩) k k) ∧ la.isNone = !lv) := ⟨hRR.1, hRR.2.1, hRR.2.2, HR2.out.2.2.2⟩
      obtain ⟨hc, hHQ⟩ : ∃ hc, HQ wb Q k hc ask key rf lk := by
        obtain ⟨hc, q⟩ := HLa.out.2.hq
        refine ⟨hc, ?_, q.size, q.each⟩
        rw [HWb.out]
        refine (Below.heap_setCell _ _ _ _ (fun e => ?_)).trans q.at_
        have h1 := q.at_
        rw [show Q = N from e, HLa.out.1.ss.nx.at_] at h1
        cases h1
      have HHQ : Hid (HQ wb Q k hc ask key rf lk) := hHQ
      rw [← HWb.out]
      clear hHQ hRR HR3 HWb HLa HR2 c256 f256
      have HD : Hid (∀ x, Calls Ybaf.prog 14 #[.int .u64 x, .int .u64 id, .bool sd, .slice pc n cc, .int .u64 mask] wb fun e w' => e = .returned (.bool (S x)) ∧ wb = w') := fun x => by
        rw [HSD.out]
        exact dead_calls x id mask sd pc n cc vv wb HLb.out.vc (by omega)
      go_upto_block 6 with (go_at_call 14; refine (HD.out id).mono ?_; rintro e' w' ⟨rfl, rfl⟩)
      go_cut [23, 25] from 153 to 164 (fun s23 s25 wx => s23 = .bool (!S id || al S vv n) ∧ wx = wb)
      case first =>
        go_wp2_with fail
        go_loopg [23, 25, 153] n (fun g y x i wr => ∃ j : Nat, g = n - j ∧ j ≤ n ∧ i = .int .i64 j ∧ y = .bool (!S id || al S vv j) ∧ wr = wb)
        case atStart => exact ⟨0, rfl, by omega, rfl, by simp [al], rfl⟩
        case round =>
          obtain ⟨j, rfl, hj, rfl, rfl, rfl⟩ := hrel
          by_cases hjl : j < n
          · have hjl' : (j : Int) < (n : Int) := by omega
            obtain ⟨ad, hvp, hcell⟩ := HLb.out.vc (by omega)
            subst hvp
            have d := hcell j hjl
            clear hcell
            rcases hs : S (vv j) with _ | _
            · have HS' : Hid (S (vv j) = false) := hs
              go_wp2_with (go_at_call 14; refine (HD.out (vv j)).mono ?_; rintro e' w' ⟨rfl, rfl⟩)
              go_roundg (n - (j + 1))
              case measure => omega
              case rel => exact ⟨j + 1, rfl, by omega, by go_num, by rw [al, HS'.out]; simp, rfl⟩
            · have HS' : Hid (S (vv j) = true) := hs
              go_wp2_with (go_at_call 14; refine (HD.out (vv j)).mono ?_; rintro e' w' ⟨rfl, rfl⟩)
              go_roundg (n - (j + 1))
              case measure => omega
              case rel => exact ⟨j + 1, rfl, by omega, by go_num, by rw [al, HS'.out]; simp, rfl⟩
          · obtain rfl : n = j := by omega
            go_wp2_with fail
            go_meet
            exact ⟨rfl, rfl⟩
      case rest =>
      obtain ⟨rfl, rfl⟩ := hcut
      generalize hlv : (!S id || al S vv n) = live
      have HCall : Hid (Calls Ybaf.prog 15 _ wc _) := held_calls wc N m1 m3 H Q k R3 S id (some ⟨B, 0, none⟩) n n vv hc ask key rf lk la live ⟨HLb.out.ss.nx, HLb.out.ss.pr, HLb.out.ss.dm, HRR.out.1, HLb.out.v, by omega⟩ HHQ.out hlv HRR.out.2.1 HRR.out.2.2.1 (by omega) (fun ad e => by cases e; exact ⟨HLb.out.lt, by have := HLb.out.ss.lt.1; show B ≠ H; omega⟩) HLb.out.ss.host
      clear hlv HD
      go_upto_region 39 with (go_at_call 15; refine HCall.out.mono ?_; rintro e' wd ⟨rfl, ms, wr', hai, hbs⟩; have HA : Hid (AI wc wr' H Q k k hc (live && la.isNone) id (.slice (some ⟨B, 0, none⟩) n n) ask key rf lk ms ∧ BStep 97 N (R3.setIfInBounds 256 (.slice (some ⟨Q, 0, none⟩) (keepN live k) k)) wr' wd) := ⟨hai, hbs⟩; clear hai hbs)
      have hft := held_after HLb.out HRR.out.1 HHQ.out HA.out.1 HA.out.2
      rw [HRR.out.2.2.2] at hft
      obtain ⟨hF, hoff, hon⟩ := hft
      have HF : Hid (FS w wd N B Q n k (keepN live k) vv pc hc ask key rf lk) := hF
      have HOff : Hid ((live && !lv) = false → wd.heap[H]? = some (.cells #[.slice none 0 0, .slice none 0 0] 69 (0, 0))) := hoff
      have HOn : Hid ((live && !lv) = true → HS wd H wc.heap.size k id (.slice (some ⟨B, 0, none⟩) n n) ask key rf lk ms) := hon
      clear hF hoff hon HA HCall HLb HRR HHQ
      have c21 := HF.out.c21
      have HEq : Hid (Calls Ybaf.prog 11 _ wd _) := equal_calls (some ⟨B, 0, none⟩) pc n n cc vv wd HF.out.v HF.out.vc (by omega)
      go_upto_region 41 with (go_at_call 11; refine HEq.out.mono ?_; rintro e' we ⟨rfl, hbe⟩; have HBe : Hid (Below wd.heap.size wd we) := hbe; clear hbe)
      have HFe : Hid (FS w we N B Q n k (keepN live k) vv pc hc ask key rf lk) := HF.out.keep HBe.out
      clear HEq HF c21
      cases live with
      | false =>
        have hH0 : we.heap[H]? = some (.cells #[.slice none 0 0, .slice none 0 0] 69 (0, 0)) := by
          have h1 := HOff.out rfl
          exact (HBe.out.block H (Array.getElem?_eq_some_iff.1 h1).1).trans h1
        have h0 : we.cell? ⟨H, 0, none⟩ = some (.slice none 0 0) := cell_of hH0 rfl
        have c256 : we.cell? ⟨N, 256, none⟩ = some (.slice (some ⟨Q, 0, none⟩) k k) := HFe.out.c256
        clear hH0 HOff HOn HBe
        go_upto_block 8 with fail
        go_wp2_with fail
        clear h0 c256
        go_loopg [26, 27, 28, 195] k (fun g x y z i wr => ∃ j : Nat, g = k - j ∧ j ≤ k ∧ i = .int .i64 j ∧ Hid (FS w wr N B Q n k k vv pc hc ask key rf lk))
        case atStart => exact ⟨0, rfl, by omega, rfl, HFe⟩
        case round =>
          clear HFe
          obtain ⟨j, rfl, hj, rfl, HJ⟩ := hrel
          by_cases hjl : j < k
          · have hjl' : (j : Int) < (k : Int) := by omega
            obtain ⟨hpb, hpo, hvp, hcell⟩ := HHI.out.keep HJ.out.base (by omega)
            subst hvp
            obtain ⟨d0, d1, d2, d3⟩ := hcell j hjl
            clear hcell
            have c256 := HJ.out.c256
            obtain ⟨e0, e1, e2, e3⟩ := HJ.out.hq.each j hjl
            have b0 : wr.cell? ⟨Q, j * 4, none⟩ = some (.int .u64 (ask j)) := cell_of HJ.out.hq.at_ e0
            have b1 : wr.cell? ⟨Q, j * 4 + 1, none⟩ = some (.int .u64 (key j)) := cell_of HJ.out.hq.at_ e1
            have b2 : wr.cell? ⟨Q, j * 4 + 2, none⟩ = some (.int .u64 (rf j)) := cell_of HJ.out.hq.at_ e2
            have b3 : wr.cell? ⟨Q, j * 4 + 3, none⟩ = some (.bool (lk j)) := cell_of HJ.out.hq.at_ e3
            have hQw : Q < wr.heap.size := lt_of_cell b0
            have hNw : N < wr.heap.size := lt_of_cell c256
            have hpw : hpb < wr.heap.size := lt_of_cell d0
            clear e0 e1 e2 e3
            go_wp2_with fail
            go_roundg (k - (j + 1))
            case measure => omega
            case rel => exact ⟨j + 1, rfl, by omega, by go_num, (HJ.out.keep ((Below.refl _ _).alloc (Nat.le_refl _) _)).keep ((Below.refl _ _).alloc (Nat.le_refl _) _)⟩
          · obtain rfl : k = j := by omega
            go_wp2_with fail
            go_ret
            exact ⟨rfl, HJ.out.base⟩
      | true =>
        have c256 : we.cell? ⟨N, 256, none⟩ = some (.slice (some ⟨Q, 0, none⟩) 0 k) := HFe.out.c256
        cases lv with
        | true =>
          have hH0 : we.heap[H]? = some (.cells #[.slice none 0 0, .slice none 0 0] 69 (0, 0)) := by
            have h1 := HOff.out rfl
            exact (HBe.out.block H (Array.getElem?_eq_some_iff.1 h1).1).trans h1
          have h0 : we.cell? ⟨H, 0, none⟩ = some (.slice none 0 0) := cell_of hH0 rfl
          clear hH0 HOff HOn HBe
          go_wp2_with fail
          go_ret
          exact ⟨rfl, HFe.out.base⟩
        | false =>
          have HSe : Hid (HS we H wc.heap.size k id (.slice (some ⟨B, 0, none⟩) n n) ask key rf lk ms) := (HOn.out rfl).keep HBe.out
          clear HOff HOn HBe
          obtain ⟨tv, mv, h1, h2, h3⟩ := HSe.out.host.ex
          obtain ⟨pt, ct, htv⟩ := own_form h2
          obtain ⟨pm, cm, hmv⟩ := own_form h3
          subst htv hmv
          have h0 : we.cell? ⟨H, 0, none⟩ = some (.slice pt k ct) := cell_of h1 rfl
          have h1' : we.cell? ⟨H, 1, none⟩ = some (.slice pm k cm) := cell_of h1 rfl
          clear h1 h2 h3
          go_upto_block 10 with fail
          go_wp2_with fail
          clear h0 h1' c256
          go_loopg [29, 30, 31, 267] k (fun g x y z i wr => ∃ j : Nat, g = k - j ∧ j ≤ k ∧ i = .int .i64 j ∧ Hid (FS w wr N B Q n k 0 vv pc hc ask key rf lk ∧ HS wr H wc.heap.size k id (.slice (some ⟨B, 0, none⟩) n n) ask key rf lk ms))
          case atStart => exact ⟨0, rfl, by omega, rfl, HFe.out, HSe.out⟩
          case round =>
            clear HFe HSe
            obtain ⟨j, rfl, hj, rfl, HJ⟩ := hrel
            by_cases hjl : j < k
            · have hjl' : (j : Int) < (k : Int) := by omega
              obtain ⟨hpb, hpo, hvp, hcell⟩ := HHI.out.keep HJ.out.1.base (by omega)
              subst hvp
              obtain ⟨d0, d1, d2, d3⟩ := hcell j hjl
              clear hcell
              obtain ⟨tb, ct', rb, cm', mb, t0, t1, t2, t3, hm⟩ := HJ.out.2.at hjl
              have hHw : H < wr.heap.size := lt_of_cell t0
              have htw : tb < wr.heap.size := lt_of_cell t2
              have hrw : rb < wr.heap.size := lt_of_cell t3
              have hpw : hpb < wr.heap.size := lt_of_cell d0
              have hmw : mb < wr.heap.size := (Array.getElem?_eq_some_iff.1 hm).1
              have HM : Hid (wr.heap[mb]? = some (.cells (msg id (lk j) (rf j) (key j) (.slice (some ⟨B, 0, none⟩) n n)) 112 (0, 0))) := hm
              clear hm
              go_upto_region 62 with fail
              go_quiet (fail)
              obtain ⟨w7, HW7⟩ : ∃ W : World, Hid (W = (wr.alloc (.cells #[.int .u64 (ask j), .int .u64 (key j), .int .u64 (rf j), .bool (lk j)] 105)).drewN nq) := ⟨_, rfl⟩
              obtain ⟨qb, hqb⟩ : ∃ x, wr.heap.size = x := ⟨_, rfl⟩
              have hb7 : Below wr.heap.size wr w7 := by rw [HW7.out]; exact below_drewN ((Below.refl _ _).alloc (Nat.le_refl _) _) _
              have hq7 : w7.heap[qb]? = some (.cells #[.int .u64 (ask j), .int .u64 (key j), .int .u64 (rf j), .bool (lk j)] 105 (0, 0)) := by rw [HW7.out]; exact new_at hqb.symm
              have hm7 := (hb7.block mb hmw).trans HM.out
              have HJ7 : Hid (FS w w7 N B Q n k 0 vv pc hc ask key rf lk ∧ HS w7 H wc.heap.size k id (.slice (some ⟨B, 0, none⟩) n n) ask key rf lk ms) := ⟨HJ.out.1.keep hb7, HJ.out.2.keep hb7⟩
              rw [← HW7.out, hqb]
              clear HM HJ d0 d1 d2 d3 t0 t1 t2 t3 hHw htw hrw hpw hb7 HW7
              have k0 : w7.cell? ⟨qb, 0, none⟩ = some (.int .u64 (ask j)) := cell_of hq7 rfl
              have k1 : w7.cell? ⟨qb, 1, none⟩ = some (.int .u64 (key j)) := cell_of hq7 rfl
              have k2 : w7.cell? ⟨qb, 2, none⟩ = some (.int .u64 (rf j)) := cell_of hq7 rfl
              have k3 : w7.cell? ⟨qb, 3, none⟩ = some (.bool (lk j)) := cell_of hq7 rfl
              have s0 : w7.cell? ⟨mb, 0, none⟩ = some (.int .u8 3) := cell_of hm7 rfl
              have s1 : w7.cell? ⟨mb, 1, none⟩ = some (.int .u64 id) := cell_of hm7 rfl
              have s2 : w7.cell? ⟨mb, 2, none⟩ = some (.bool false) := cell_of hm7 rfl
              have s3 : w7.cell? ⟨mb, 3, none⟩ = some (.bool (lk j)) := cell_of hm7 rfl
              have s4 : w7.cell? ⟨mb, 4, none⟩ = some (.int .u64 (rf j)) := cell_of hm7 rfl
              have s5 : w7.cell? ⟨mb, 5, none⟩ = some (.int .u64 (key j)) := cell_of hm7 rfl
              have s6 : w7.cell? ⟨mb, 6, none⟩ = some (.bool true) := cell_of hm7 rfl
              have s11 : w7.cell? ⟨mb, 11, none⟩ = some (.int .u64 0) := cell_of hm7 rfl
              have HM7 : Hid (w7.heap[mb]? = some (.cells (msg id (lk j) (rf j) (key j) (.slice (some ⟨B, 0, none⟩) n n)) 112 (0, 0))) := hm7
              clear hq7 hm7 hqb hmw
              go_upto_region 64 with fail
              go_quiet (fail)
              rename_i nq0
              obtain ⟨w8, HW8⟩ : ∃ W : World, Hid (W = w7.drewN nq) := ⟨_, rfl⟩
              have hb8 : Below w7.heap.size w7 w8 := by rw [HW8.out]; exact below_drewN (Below.refl _ _) _
              have hm8 := (hb8.block mb (Array.getElem?_eq_some_iff.1 HM7.out).1).trans HM7.out
              have HJ8 : Hid (FS w w8 N B Q n k 0 vv pc hc ask key rf lk ∧ HS w8 H wc.heap.size k id (.slice (some ⟨B, 0, none⟩) n n) ask key rf lk ms) := ⟨HJ7.out.1.keep hb8, HJ7.out.2.keep hb8⟩
              rw [← HW8.out]
              clear HM7 HJ7 hb8 HW8 k0 k1 k2 k3 s0 s1 s2 s3 s4 s5 s6 s11
              have s7 : w8.cell? ⟨mb, 7, none⟩ = some (.slice (some ⟨B, 0, none⟩) n n) := cell_of hm8 rfl
              have s8 : w8.cell? ⟨mb, 8, none⟩ = some (.int .i64 0) := cell_of hm8 rfl
              have s9 : w8.cell? ⟨mb, 9, none⟩ = some (.int .i64 0) := cell_of hm8 rfl
              have s10 : w8.cell? ⟨mb, 10, none⟩ = some (.bool true) := cell_of hm8 rfl
              have q74 : ∀ w : World, (binOp BinOp.neq 74 (.agg #[.int .i64 0, .int .i64 0, .bool true]) (.agg #[.int .i64 0, .int .i64 0, .bool true])).run Ybaf.prog w = .ok (.bool false) w := fun w => by kernel_rfl
              have HEq : Hid (Calls Ybaf.prog 11 _ w8 _) := equal_calls (some ⟨B, 0, none⟩) pc n n cc vv w8 HJ8.out.1.v HJ8.out.1.vc (by omega)
              clear hm8
              go_wp2_with (go_at_call 11; refine HEq.out.mono ?_; rintro e' w9 ⟨rfl, hbe⟩; have HBe : Hid (Below w8.heap.size w8 w9) := hbe; clear hbe)
              go_roundg (k - (j + 1))
              case measure => omega
              case rel => exact ⟨j + 1, rfl, by omega, by go_num, HJ8.out.1.keep HBe.out, HJ8.out.2.keep HBe.out⟩
            · obtain rfl : k = j := by omega
              go_wp2_with fail
              go_ret
              exact ⟨rfl, HJ.out.1.base⟩
end Go.Proofs.YbulkdxyaFmt
