/- The law: her walk. -/
import Derived.Test.YbulkdycwFmtModel
import Derived.Test.YbulkdycwFmtEq
import Derived.Test.YbulkdycwFmtFront
namespace Go.Proofs.YbulkdycwFmt
open Go.RowKit
open Go.Extern.Stop Go.Stop Go.Extern
set_option linter.unusedSimpArgs false
set_option linter.unusedVariables false

theorem model_calls (ad : Addr) (n c : Nat) (dv : Nat → Int) (w : World) (hd : Bytes dv) (hb : BsAt w ad n dv 0) (hnc : n ≤ c) (hn : n ≤ 2097152) (hab : ad.block < w.heap.size) :
    Calls Ybaf.prog 7 #[.slice (some ad) n c] w fun e w' => MOut w w' w.heap.size dv n e := by
  rcases Nat.lt_or_ge n 8 with h | h
  · exact model_short ad n c dv w h
  · exact model_long ad n c dv w h hd hb hnc hn hab

set_option maxRecDepth 100000 in
set_option maxHeartbeats 4000000 in
theorem law_calls (F : Interp) (nv : Nat → ByteArray) (ns fl rm ty rs ls sh pr : Int) (a : Option Addr) (n c : Nat) (bv : Nat → Int) (w : World) (hnc : n ≤ c)
    (hns : 0 ≤ ns ∧ ns ≤ 65535) (hfl : 0 ≤ fl ∧ fl ≤ 255) (hrm : 0 ≤ rm ∧ rm ≤ 255) (hty : 0 ≤ ty ∧ ty ≤ 4294967295) (hrs : 0 ≤ rs ∧ rs ≤ 255) (hls : 0 ≤ ls ∧ ls ≤ 255) (hsh : 0 ≤ sh ∧ sh ≤ 255) (hpr : 0 ≤ pr ∧ pr ≤ 255)
    (hB : OBs w a n bv 0) (hbB : Bytes bv) (ht : Table w nv) (hF : F.answers w.tape) :
    Calls Ybaf.prog 3 #[.int .u16 ns, .int .u8 fl, .int .u8 rm, .int .u32 ty, .int .u8 rs, .int .u8 ls, .int .u8 sh, .int .u8 pr, .slice a n c] w fun e w' => e = .returned (.bool true) ∧ Below w.heap.size w w' := by
  obtain ⟨hns0, hns1⟩ := hns
  obtain ⟨hfl0, hfl1⟩ := hfl
  obtain ⟨hrm0, hrm1⟩ := hrm
  obtain ⟨hty0, hty1⟩ := hty
  obtain ⟨hrs0, hrs1⟩ := hrs
  obtain ⟨hls0, hls1⟩ := hls
  obtain ⟨hsh0, hsh1⟩ := hsh
  obtain ⟨hpr0, hpr1⟩ := hpr
  obtain ⟨i5, hi5, hz50, hz51, hz52⟩ := info_parts inf5
  have HF : Hid (F.answers w.tape) := hF
  have HBB : Hid (OBs w a n bv 0) := hB
  have HT : Hid (Table w nv) := ht
  have hsz1 : 1 < w.heap.size := lt_of_cell (a := ⟨1, 0 * 3, none⟩) (ht 0 (by omega)).1
  have HSZ1 : Hid (1 < w.heap.size) := hsz1
  clear hF hB ht hsz1
  go_enter Ybaf.func3, Ybaf.ntmps3
  by_cases hbig : n ≤ 1048576
  · have hbig' : (n : Int) ≤ 1048576 := by omega
    obtain ⟨T, hT, hTl⟩ := and24 ty hty0 (by omega)
    go_upto_if 42 with (go_at_call 4; refine (units_calls T _ hTl).mono ?_; rintro e' w' ⟨rfl, rfl⟩)
    have hu := units_le T 24
    generalize units T 24 = U at hu ⊢
    go_cut [20] from 40 to 74 (fun s wx => (∃ z : Nat, s = .int .i64 (z : Int) ∧ z ≤ 100) ∧ wx = w)
    case first =>
      by_cases h3 : ls % 4 = 3
      · go_wp2_with fail
        go_meet
        refine ⟨⟨?_, ?_, ?_⟩, rfl⟩
        · exact ((((U : Int) + 1 + ls / 4 % 31) % 32).toNat)
        · congr 1; omega
        · omega
      · go_wp2_with fail
        go_meet
        exact ⟨⟨U, rfl, by omega⟩, rfl⟩
    case rest =>
    obtain ⟨⟨z, rfl, hz⟩, hx⟩ := hcut
    replace hx := hx.symm
    subst hx
    have ha1 : bits .and .u8 rm 127 = rm % 128 := bits_mask .u8 8 (by decide) wraps_u8 7 (by decide) _ (by omega) (by omega)
    go_upto_if 56 with fail
    go_cut [21] from 51 to 74 (fun s wx => (∃ r : Int, s = .int .i64 r) ∧ wx = w)
    case first =>
      have hq : ((n : Int) / 4 + 1 == 0) = false := by simp; omega
      by_cases h3 : bits .and .u8 rm 128 = 0
      · go_wp2_with fail
        go_meet
        exact ⟨⟨_, rfl⟩, rfl⟩
      · go_wp2_with fail
        go_meet
        exact ⟨⟨_, rfl⟩, rfl⟩
    case rest =>
    obtain ⟨⟨r, rfl⟩, hx⟩ := hcut
    replace hx := hx.symm
    subst hx
    go_upto_region 10 with fail
    go_cut [22] from 64 to 74 (fun s wx => (∃ x : Int, s = .int .u16 x) ∧ wx = w)
    case first =>
      go_wp2_with fail
      go_meet
      exact ⟨⟨_, rfl⟩, rfl⟩
    case rest =>
    obtain ⟨⟨X, rfl⟩, hx⟩ := hcut
    replace hx := hx.symm
    subst hx
    go_upto_region 11 with fail
    clear hT ha1
    obtain ⟨N, hN⟩ : ∃ N, w.heap.size = N := ⟨_, rfl⟩
    have HN : Hid (w.heap.size = N) := hN
    have hN1 : 1 < N := by rw [← hN]; exact HSZ1.out
    obtain ⟨W0, HW0⟩ : ∃ W : World, Hid (W = w.alloc (.cells (madeCells #[.int .u8 0] (8 + n)) 5)) := ⟨_, rfl⟩
    have HM0 : Hid (W0.heap[N]? = some (.cells (madeCells #[.int .u8 0] (8 + n)) 5 (0, 0))) := by rw [HW0.out]; exact new_at hN.symm
    have HBe0 : Hid (Below N w W0) := by rw [HW0.out]; exact (Below.refl _ _).alloc (by omega) _
    have hcell : ∀ i, i < 8 → W0.cell? ⟨N, i, none⟩ = some (.int .u8 0) := fun i hi => cell_of HM0.out (made_at (by omega))
    have m0 := hcell 0 (by omega)
    have m1 := hcell 1 (by omega)
    have m2 := hcell 2 (by omega)
    have m3 := hcell 3 (by omega)
    have m4 := hcell 4 (by omega)
    have m5 := hcell 5 (by omega)
    have m6 := hcell 6 (by omega)
    have m7 := hcell 7 (by omega)
    have g0 : W0.frozen? ⟨N, 0, none⟩ = false := frozen_of HM0.out
    have g1 : W0.frozen? ⟨N, 1, none⟩ = false := frozen_of HM0.out
    have g2 : W0.frozen? ⟨N, 2, none⟩ = false := frozen_of HM0.out
    have g3 : W0.frozen? ⟨N, 3, none⟩ = false := frozen_of HM0.out
    have g4 : W0.frozen? ⟨N, 4, none⟩ = false := frozen_of HM0.out
    have g5 : W0.frozen? ⟨N, 5, none⟩ = false := frozen_of HM0.out
    have g6 : W0.frozen? ⟨N, 6, none⟩ = false := frozen_of HM0.out
    have g7 : W0.frozen? ⟨N, 7, none⟩ = false := frozen_of HM0.out
    have hmk : (Instr.makeSlice 24 (.int .i64 (8 + (n : Int))) (.int .i64 (8 + (n : Int)))).run Ybaf.prog w = .ok (.slice (some ⟨N, 0, none⟩) (8 + n) (8 + n)) W0 := by
      have h := run_make_row (P := Ybaf.prog) 24 5 i5 (.int .u8 0) Ybaf.underlying24 hi5 hz50 hz51 rfl .i64 .i64 (8 + n) (by rw [hz52]; omega) (by omega) w
      rw [← HW0.out, hN, show ((8 + n : Nat) : Int) = 8 + (n : Int) by omega] at h
      exact h
    clear hcell hN
    go_upto_region 12 with fail
    clear hmk
    have l0 : (0 : Int) < 8 + (n : Int) := by omega
    have l1 : (1 : Int) < 8 + (n : Int) := by omega
    have l2 : (2 : Int) < 8 + (n : Int) := by omega
    have l3 : (3 : Int) < 8 + (n : Int) := by omega
    have l4 : (4 : Int) < 8 + (n : Int) := by omega
    have l5 : (5 : Int) < 8 + (n : Int) := by omega
    have l6 : (6 : Int) < 8 + (n : Int) := by omega
    have l7 : (7 : Int) < 8 + (n : Int) := by omega
    go_upto_region 20 with fail
    obtain ⟨W1, HW1⟩ : ∃ W1 : World, Hid (W1 = ((((((((W0.setCell ⟨N, 0, none⟩ (.int .u8 (ns / 256))).setCell ⟨N, 1, none⟩ (.int .u8 (ns % 256))).setCell ⟨N, 2, none⟩ (.int .u8 (X / 256 % 256))).setCell ⟨N, 3, none⟩ (.int .u8 (X % 256))).setCell ⟨N, 4, none⟩ (.int .u8 ((T : Int) / 65536))).setCell ⟨N, 5, none⟩ (.int .u8 ((T : Int) / 256 % 256))).setCell ⟨N, 6, none⟩ (.int .u8 ((T : Int) % 256))).setCell ⟨N, 7, none⟩ (.int .u8 rs))) := ⟨_, rfl⟩
    obtain ⟨hv, hhv, h0v, h1v, h2v, h3v, h4v, h5v, h6v, h7v⟩ : ∃ hv : Nat → Int, Bytes hv ∧ ns / 256 = hv 0 ∧ ns % 256 = hv 1 ∧ X / 256 % 256 = hv 2 ∧ X % 256 = hv 3 ∧ (T : Int) / 65536 = hv 4 ∧ (T : Int) / 256 % 256 = hv 5 ∧ (T : Int) % 256 = hv 6 ∧ rs = hv 7 := by
      refine ⟨eight (ns / 256) (ns % 256) (X / 256 % 256) (X % 256) ((T : Int) / 65536) ((T : Int) / 256 % 256) ((T : Int) % 256) rs, eight_bytes (by omega) (by omega) (by omega) (by omega) (by omega) (by omega) (by omega) (by omega), rfl, rfl, rfl, rfl, rfl, rfl, rfl, rfl⟩
    have HR1 : Hid (BStep 5 N (row8 (madeCells #[.int .u8 0] (8 + n)) hv) W0 W1) := by
      rw [HW1.out, h0v, h1v, h2v, h3v, h4v, h5v, h6v, h7v]
      exact eight_step HM0.out hv
    rw [← HW1.out]
    clear HW1 h0v h1v h2v h3v h4v h5v h6v h7v m0 m1 m2 m3 m4 m5 m6 m7 g0 g1 g2 g3 g4 g5 g6 g7 l0 l1 l2 l3 l4 l5 l6 l7
    obtain ⟨dp, hdp⟩ : ∃ dp, cutA ⟨N, 0, none⟩ (8 + n) 8 = dp := ⟨_, rfl⟩
    have q1 : ∀ w : World, (Instr.slice 24 (.slice (some ⟨N, 0, none⟩) (8 + n) (8 + n)) (some (.int .i64 8)) none none).run Ybaf.prog w = .ok (.slice (some dp) n n) w := fun w => by
      have h := cutL ⟨N, 0, none⟩ (8 + n) (8 + n) 8 8 rfl (by omega) (Nat.le_refl _) w
      rw [hdp, Nat.add_sub_cancel_left] at h
      exact h
    have HB1 : Hid (Below N w W1) := HBe0.out.trans (HR1.out.below N (Nat.le_refl _))
    obtain ⟨w2, hcp, hrow2, hb2, hs2⟩ := copy_run W1 w (some dp) a n n c N 8 N _ 5 HR1.out.par bv (fun h0 => by
      obtain ⟨ad, e, hbs⟩ := HBB.out h0
      refine ⟨by rw [← hdp]; unfold cutA; rw [if_neg (by omega)]; simp [Addr.add], ad, e, fun j hj => ?_⟩
      have hlt := lt_of_cell (hbs j hj)
      rw [add_block, HN.out] at hlt
      exact (HB1.out.cell (p := ad.add j) (by rw [add_block]; exact hlt)).trans (hbs j hj)) (by rw [row8_size, size_madeCells]; omega) HB1.out (Nat.le_refl _)
    have HD2 : Hid (BsAt w2 ⟨N, 0, none⟩ (8 + n) (glue hv bv) 0) := data_at (size_madeCells _ _) hrow2
    have hN2 : N < w2.heap.size := (Array.getElem?_eq_some_iff.1 hrow2).1
    have HB2 : Hid (Below N w w2) := hb2
    clear hrow2 hb2 hs2 hdp
    go_upto_if 120 with fail
    clear hcp
    go_cut [23] from 121 to 126 (fun s wx => (∃ m : Nat, m ≤ 8 + n ∧ s = .slice (some ⟨N, 0, none⟩) m (8 + n)) ∧ wx = w2)
    case first =>
      by_cases h7 : sh % 8 = 7
      · have q2 := cutH ⟨N, 0, none⟩ (8 + n) (8 + n) (sh / 8 % 8).toNat (sh / 8 % 8) (by omega) (by omega)
        go_wp2_with fail
        go_meet
        exact ⟨⟨_, by omega, rfl⟩, rfl⟩
      · go_wp2_with fail
        go_meet
        exact ⟨⟨_, Nat.le_refl _, rfl⟩, rfl⟩
    case rest =>
    obtain ⟨⟨m, hm, rfl⟩, hx⟩ := hcut
    replace hx := hx.symm
    subst hx
    obtain ⟨dv, hdv⟩ : ∃ dv, glue hv bv = dv := ⟨_, rfl⟩
    have hDB : Bytes dv := by rw [← hdv]; exact glue_bytes hhv hbB
    rw [hdv] at HD2
    clear hdv hhv hv q1 HR1 HB1 HBB hbB HM0 HW0 HBe0 hnc
    obtain ⟨B1, hB1⟩ : ∃ B1, w2.heap.size = B1 := ⟨_, rfl⟩
    have HS2 : Hid (w2.heap.size = B1) := hB1
    rw [hB1] at hN2
    obtain ⟨W3, HW3⟩ : ∃ W : World, Hid (W = w2.alloc (.cells (madeCells #[.int .u8 0] m) 5)) := ⟨_, rfl⟩
    have HM3 : Hid (W3.heap[B1]? = some (.cells (madeCells #[.int .u8 0] m) 5 (0, 0))) := by rw [HW3.out]; exact new_at hB1.symm
    have HB3 : Hid (Below B1 w2 W3) := by rw [HW3.out]; exact (Below.refl _ _).alloc (by omega) _
    have hmk : (Instr.makeSlice 24 (.int .i64 (m : Int)) (.int .i64 (m : Int))).run Ybaf.prog w2 = .ok (.slice (some ⟨B1, 0, none⟩) m m) W3 := by
      have h := run_make_row (P := Ybaf.prog) 24 5 i5 (.int .u8 0) Ybaf.underlying24 hi5 hz50 hz51 rfl .i64 .i64 m (by rw [hz52]; omega) (by omega) w2
      rw [← HW3.out, hB1] at h
      exact h
    have hD2m : BsAt W3 ⟨N, 0, none⟩ m dv 0 := BsAt.keep (fun i hi => HD2.out i (by omega)) HB3.out (by omega)
    obtain ⟨w4, hcp, hrow4, hb4, hs4⟩ := copy_run W3 w2 (some ⟨B1, 0, none⟩) (some ⟨N, 0, none⟩) m m (8 + n) B1 0 B1 _ 5 HM3.out dv (fun h0 => ⟨rfl, _, rfl, hD2m⟩) (by rw [size_madeCells]; omega) HB3.out (Nat.le_refl _)
    have HO4 : Hid (BsAt w4 ⟨B1, 0, none⟩ m dv 0) := orig_at (size_madeCells _ _) hrow4
    have HD4 : Hid (BsAt w4 ⟨N, 0, none⟩ m dv 0) := BsAt.keep (w := w2) (fun i hi => HD2.out i (by omega)) hb4 (by omega)
    have HB4 : Hid (Below N w w4) := HB2.out.trans (hb4.mono (by omega))
    have hB4 : B1 < w4.heap.size := (Array.getElem?_eq_some_iff.1 hrow4).1
    clear hrow4 hb4 hs4 hD2m HD2 HB2 HB3 HM3 HW3 HS2 hB1
    obtain ⟨k, hk, hk3⟩ : ∃ k : Nat, pr % 4 = (k : Int) ∧ k ≤ 3 := ⟨(pr % 4).toNat, by omega, by omega⟩
    obtain ⟨e, he, he2⟩ : ∃ e : Nat, pr / 4 % 3 = (e : Int) ∧ e ≤ 2 := ⟨(pr / 4 % 3).toNat, by omega, by omega⟩
    go_upto_region 27 with fail
    rw [he]
    clear hmk hcp hk he
    obtain ⟨B0, hB0⟩ : ∃ B, w4.heap.size = B := ⟨_, rfl⟩
    have HS4 : Hid (w4.heap.size = B0) := hB0
    rw [hB0] at hB4
    obtain ⟨i34, hi34, hz340, hz341, hz342⟩ := info_parts inf34
    obtain ⟨W5, HW5⟩ : ∃ W : World, Hid (W = w4.alloc (.cells (madeCells z19 ((k + e) * 19)) 34)) := ⟨_, rfl⟩
    have HR5 : Hid (RN W5 B0 N B0 (k + e) (madeCells z19 ((k + e) * 19)) 0 dv []) := by rw [HW5.out]; exact rn_start hB0 (by omega) (by unfold maxLen; omega)
    have HB5 : Hid (Below B0 w4 W5) := by rw [HW5.out]; exact (Below.refl _ _).alloc (by omega) _
    have hmk : (Instr.makeSlice 27 (.int .i64 (k : Int)) (.int .i64 ((k : Int) + (e : Int)))).run Ybaf.prog w4 = .ok (.slice (some ⟨B0, 0, none⟩) k (k + e)) W5 := by
      have h := run_make (P := Ybaf.prog) w4 27 34 i34 (.agg z19) Ybaf.underlying27 hi34 hz340 .i64 .i64 k ((k : Int) + (e : Int)) (by omega) (by omega) (by rw [hz342]; omega) (by omega)
      rw [hz341, hB0, show ((k : Int) + (e : Int)).toNat = k + e by omega, Int.toNat_natCast] at h
      rw [h, HW5.out]
      rfl
    clear hB0 HW5
    go_upto_block 1 with fail
    clear hmk
    go_wp2_with fail
    go_loopg [28] k (fun g i wr => ∃ (j : Nat) (cur : Array Value), g = k - j ∧ j ≤ k ∧ i = .int .i64 j ∧ Hid (RN wr B0 N B0 (k + e) cur 0 dv [] ∧ Below B0 w4 wr))
    case atStart => exact ⟨0, _, rfl, by omega, rfl, HR5.out, HB5.out⟩
    case round =>
      clear HR5 HB5
      obtain ⟨j, cur, rfl, hj, rfl, HL⟩ := hrel
      by_cases hjl : j < k
      · have hjl' : (j : Int) < (k : Int) := by omega
        have hrow := HL.out.1.row
        have hlt : B0 < wr.heap.size := (Array.getElem?_eq_some_iff.1 hrow).1
        have hsz := HL.out.1.size
        have hin : (j + 1) * 19 ≤ (k + e) * 19 := Nat.mul_le_mul_right _ (by omega)
        obtain ⟨v0, m0⟩ : ∃ v, wr.cell? ⟨B0, j * 19, none⟩ = some v := ⟨_, cell_of hrow (Array.getElem?_eq_getElem (show j * 19 < cur.size by omega))⟩
        obtain ⟨v1, m1⟩ : ∃ v, wr.cell? ⟨B0, j * 19 + 16, none⟩ = some v := ⟨_, cell_of hrow (Array.getElem?_eq_getElem (show j * 19 + 16 < cur.size by omega))⟩
        obtain ⟨v2, m2⟩ : ∃ v, wr.cell? ⟨B0, j * 19 + 17, none⟩ = some v := ⟨_, cell_of hrow (Array.getElem?_eq_getElem (show j * 19 + 17 < cur.size by omega))⟩
        obtain ⟨v3, m3⟩ : ∃ v, wr.cell? ⟨B0, j * 19 + 18, none⟩ = some v := ⟨_, cell_of hrow (Array.getElem?_eq_getElem (show j * 19 + 18 < cur.size by omega))⟩
        have f0 : wr.frozen? ⟨B0, j * 19, none⟩ = false := frozen_of hrow
        have f1 : wr.frozen? ⟨B0, j * 19 + 16, none⟩ = false := frozen_of hrow
        have f2 : wr.frozen? ⟨B0, j * 19 + 17, none⟩ = false := frozen_of hrow
        have f3 : wr.frozen? ⟨B0, j * 19 + 18, none⟩ = false := frozen_of hrow
        have HROW : Hid (_ = _) := hrow
        clear hrow hsz hin
        go_wp2_with fail
        go_roundg (k - (j + 1))
        case measure => omega
        case rel =>
          obtain ⟨cur', hr', hb'⟩ := rn_old HL.out.1 j (by omega) (by omega) _ _ _ _ rfl
          exact ⟨j + 1, cur', rfl, by omega, by go_num, hr', HL.out.2.trans hb'⟩
      · have hjl' : ¬ (j : Int) < (k : Int) := by omega
        obtain ⟨W6, HW6⟩ : ∃ W : World, Hid (W = wr.alloc (.cells #[.int .u16 48879, .int .u8 3, .int .u8 5, .int .u8 9, .int .u32 1193046, .slice (some ⟨B0, 0, none⟩) k (k + e)] 39)) := ⟨_, rfl⟩
        obtain ⟨tb, htb⟩ : ∃ tb, wr.heap.size = tb := ⟨_, rfl⟩
        have HTB : Hid (wr.heap.size = tb) := htb
        have hBt : B0 < tb := by rw [← htb]; exact (Array.getElem?_eq_some_iff.1 HL.out.1.row).1
        have HB6 : Hid (Below B0 w4 W6) := by rw [HW6.out]; exact HL.out.2.alloc (by omega) _
        have HR6 : Hid (RN W6 B0 tb B0 (k + e) cur 0 dv []) := by rw [HW6.out, ← htb]; exact HL.out.1.fresh _
        have HP6 : Hid (W6.heap[tb]? = some (.cells #[.int .u16 48879, .int .u8 3, .int .u8 5, .int .u8 9, .int .u32 1193046, .slice (some ⟨B0, 0, none⟩) k (k + e)] 39 (0, 0))) := by rw [HW6.out]; exact new_at htb.symm
        have HD6 : Hid (BsAt W6 ⟨N, 0, none⟩ m dv 0) := fun i hi => (HB6.out.cell (p := (⟨N, 0, none⟩ : Addr).add i) (by rw [add_block]; show N < B0; omega)).trans (HD4.out i hi)
        have HO6 : Hid (BsAt W6 ⟨B1, 0, none⟩ m dv 0) := fun i hi => (HB6.out.cell (p := (⟨B1, 0, none⟩ : Addr).add i) (by rw [add_block]; show B1 < B0; omega)).trans (HO4.out i hi)
        have HBW6 : Hid (Below N w W6) := HB4.out.trans (HB6.out.mono (by omega))
        have hC5 := pre_calls F B0 tb B0 k (k + e) cur (.int .u16 48879) (.int .u8 3) (.int .u8 5) (.int .u8 9) (.int .u32 1193046) nv ⟨N, 0, none⟩ m (8 + n) dv W6 (by omega) hm hDB HD6.out (by show N < B0; omega) (by omega) HP6.out HR6.out (HT.out.keep HBW6.out hN1) (by omega) (by rw [HW6.out]; simp; omega) (by rw [HBW6.out.tape]; exact HF.out)
        have HC5 : Hid (Calls Ybaf.prog 5 _ _ _) := hC5
        clear hC5 HR6 HP6 htb HB6
        go_upto_region 35 with fail
        rw [← HW6.out, HTB.out]
        clear HW6 HL
        go_upto_region 36 with (go_at_call 5; refine HC5.out.mono ?_; rintro e' w7 hpo; obtain ⟨v, rfl⟩ := hpo.value; have HPO : Hid (POut W6 w7 B0 tb dv m (.returned v)) := hpo; clear hpo)
        obtain ⟨ps, b, Tb, C2, cur2, hsays, hv, htr, hrn, hbl⟩ := HPO.out
        have HS7 : Hid (Says dv m ps b ∧ w7.heap[tb]? = some (.cells (trc (vNs dv m) (vNl dv m) (vFl dv m) (vRl dv m) (vTy dv m) (.slice (some ⟨Tb, 0, none⟩) ps.length C2)) 39 (0, 0)) ∧ RN w7 B0 tb Tb C2 cur2 (hTy dv) dv ps) := ⟨hsays, htr, hrn⟩
        have HV : Hid (if b = true then ∃ t x, Ending.returned v = .returned (.iface t x) else Ending.returned v = .returned .nilIface) := hv
        have HD7 : Hid (BsAt w7 ⟨N, 0, none⟩ m dv 0) := fun i hi => (hbl.cell (p := (⟨N, 0, none⟩ : Addr).add i) (by rw [add_block]; show N < B0; omega)).trans (HD6.out i hi)
        have HO7 : Hid (BsAt w7 ⟨B1, 0, none⟩ m dv 0) := fun i hi => (hbl.cell (p := (⟨B1, 0, none⟩ : Addr).add i) (by rw [add_block]; show B1 < B0; omega)).trans (HO6.out i hi)
        have HB7 : Hid (Below N w w7) := HBW6.out.trans (hbl.mono (by omega))
        have hs7 : B1 < w7.heap.size := by have := (Array.getElem?_eq_some_iff.1 htr).1; omega
        have HN7 : Hid (N ≤ w7.heap.size) := by show N ≤ _; omega
        clear hsays hv htr hrn hbl HPO HC5 HD6 HO6 HBW6
        have HC6 : Hid (Calls Ybaf.prog 6 #[.slice (some ⟨N, 0, none⟩) m (8 + n), .slice (some ⟨B1, 0, none⟩) m m] w7 fun e w' => e = .returned (.bool true) ∧ ∃ q, w' = w7.drewN q) := byteseq_calls (some ⟨N, 0, none⟩) (some ⟨B1, 0, none⟩) m (8 + n) m 0 0 dv dv w7 (by omega) (fun _ => ⟨_, rfl, HD7.out⟩) (fun _ => ⟨_, rfl, HO7.out⟩) (fun _ _ => rfl)
        go_upto_region 38 with (go_at_call 6; refine HC6.out.mono ?_; rintro e' w8 ⟨rfl, q, hq⟩; have HQ : Hid (w8 = w7.drewN q) := hq; clear hq)
        have hb8 : Below w7.heap.size w7 w8 := by rw [HQ.out]; exact below_drewN (Below.refl _ _) _
        have hs8 : w8.heap.size = w7.heap.size := by rw [HQ.out]; rfl
        have HC7 : Hid (Calls Ybaf.prog 7 #[.slice (some ⟨B1, 0, none⟩) m m] w8 fun e w' => MOut w8 w' w8.heap.size dv m e) := model_calls ⟨B1, 0, none⟩ m m dv w8 hDB (HO7.out.keep hb8 (Nat.le_refl _)) (Nat.le_refl _) (by omega) (by rw [hs8]; exact hs7)
        have HB8 : Hid (Below w7.heap.size w7 w8 ∧ w8.heap.size = w7.heap.size) := ⟨hb8, hs8⟩
        clear hb8 hs8 HC6 HQ HD7 HO7 hs7
        go_upto_region 39 with (go_at_call 7; refine HC7.out.mono ?_; rintro e' w9 ⟨ps', b', V, xs, hsay', rfl, hmn, hbl9⟩; obtain ⟨hps, hbb⟩ := HS7.out.1.same hsay'; subst hps hbb; obtain ⟨pV, cV, rfl⟩ := own_form hmn.own; have HM9 : Hid (MN w9 w8.heap.size (.slice pV ps.length cV) xs (hTy dv) dv ps ∧ Below w8.heap.size w8 w9) := ⟨hmn, hbl9⟩; clear hmn hbl9 hsay')
        obtain ⟨W10, HW10⟩ : ∃ W : World, Hid (W = w9.alloc (.cells (trc (vNs dv m) (vNl dv m) (vFl dv m) (vRl dv m) (vTy dv m) (.slice pV ps.length cV)) 39)) := ⟨_, rfl⟩
        rw [← HW10.out]
        obtain ⟨tb2, htb2⟩ : ∃ x, w9.heap.size = x := ⟨_, rfl⟩
        rw [htb2]
        have h9 : Below w7.heap.size w7 w9 := HB8.out.1.trans (HM9.out.2.mono (by rw [HB8.out.2]; exact Nat.le_refl _))
        have h10 : Below w7.heap.size w7 W10 := by rw [HW10.out]; exact h9.alloc h9.size _
        have ht7 : tb < w7.heap.size := (Array.getElem?_eq_some_iff.1 HS7.out.2.1).1
        have hR10 : RN W10 B0 tb Tb C2 cur2 (hTy dv) dv ps := HS7.out.2.2.keep (h10.mono (by omega)) (fun g _ hg _ => h10.block g hg)
        have hM10 : MN W10 w8.heap.size (.slice pV ps.length cV) xs (hTy dv) dv ps := by rw [HW10.out]; exact HM9.out.1.keep ((Below.refl _ _).alloc (Nat.le_refl _) _) HM9.out.2.size
        have HC8 : Hid (Calls Ybaf.prog 8 #[.pointer (some ⟨tb, 0, none⟩), .pointer (some ⟨tb2, 0, none⟩)] W10 fun e w' => e = .returned (.bool true) ∧ ∃ q, w' = W10.drewN q) :=
          eq_calls W10 tb tb2 Tb C2 B0 w8.heap.size cur2 (.slice pV ps.length cV) xs (hTy dv) dv ps (vNs dv m) (vNl dv m) (vFl dv m) (vRl dv m) (vTy dv m) hDB (by have := says_len HS7.out.1; omega) ((h10.block tb ht7).trans HS7.out.2.1) (by rw [HW10.out]; exact new_at htb2.symm) hR10 hM10
        have HB10 : Hid (Below N w W10) := HB7.out.trans (h10.mono HN7.out)
        have hv := HV.out
        clear h9 h10 ht7 hR10 hM10 HM9 HW10 htb2 HS7 HC7 HB8 HB7 HV
        cases b
        · have hv' : v = .nilIface := by simpa using hv
          subst hv'
          clear hv
          go_wp2_with (go_at_call 8; refine HC8.out.mono ?_; rintro e' w11 ⟨rfl, q2, hq2⟩; have HQ2 : Hid (w11 = W10.drewN q2) := hq2; clear hq2)
          go_ret
          exact ⟨rfl, by rw [HN.out, HQ2.out]; exact below_drewN HB10.out _⟩
        · obtain ⟨t, x, rfl⟩ : ∃ t x, v = .iface t x := by simpa using hv
          clear hv
          go_wp2_with (go_at_call 8; refine HC8.out.mono ?_; rintro e' w11 ⟨rfl, q2, hq2⟩; have HQ2 : Hid (w11 = W10.drewN q2) := hq2; clear hq2)
          go_ret
          exact ⟨rfl, by rw [HN.out, HQ2.out]; exact below_drewN HB10.out _⟩
  · have hbig' : ¬ (n : Int) ≤ 1048576 := by omega
    go_wp2
    go_ret
    exact ⟨rfl, Below.refl _ _⟩
end Go.Proofs.YbulkdycwFmt
