/- parseNodes: by contract. -/
import Derived.Test.YbulkdycwFmtState
namespace Go.Proofs.YbulkdycwFmt
open Go.RowKit
open Go.Extern.Stop Go.Stop Go.Extern
set_option linter.unusedSimpArgs false
set_option linter.unusedVariables false

set_option maxRecDepth 100000 in
set_option maxHeartbeats 2000000 in
theorem parseNodes_calls (F : Interp) (B0 tb Tb C : Nat) (cur : Array Value) (ns fl rl : Int) (T : Nat) (hT : T < 16777216) (nv : Nat → ByteArray) (ad : Addr) (n c p0 L : Nat) (dv : Nat → Int) (w : World) (hL : L = p0 + n) (hn : n ≤ 2097152) (hnc : n ≤ c) (hd : Bytes dv) (hb : BsAt w ad n dv p0) (hab : ad.block < B0)
    (htb : B0 ≤ tb) (htr : TrAt w tb ns fl rl T Tb 0 C) (hRN : RN w B0 tb Tb C cur T dv []) (ht : Table w nv) (h1B : 1 < B0) (hB0 : B0 ≤ w.heap.size) (hF : F.answers w.tape) :
    Calls Ybaf.prog 11 #[.pointer (some ⟨tb, 0, none⟩), .slice (some ad) n c] w fun e w' => PDone w w' B0 tb ns fl rl T dv L p0 e := by
  have HL : Hid (L = p0 + n) := hL
  have HT : Hid (Table w nv) := ht
  have HF : Hid (F.answers w.tape) := hF
  have HP0 : Hid (PS w w B0 tb Tb C cur ns fl rl T dv L p0 p0 [] ad ad.block) := ⟨rfl, by rw [show L - p0 = n by omega]; exact hb, htr, hRN, Below.refl _ _, fun ps b h => h, by simp, hB0⟩
  have hu := units_le T 24
  have h22 := and_two T hT
  have c1 : w.cell? ⟨tb, 1, none⟩ = some (.int .u8 (units T 24 : Nat)) := cell_of htr rfl
  have c4 : w.cell? ⟨tb, 4, none⟩ = some (.int .u32 T) := cell_of htr rfl
  clear ht hF htr hRN hb hL
  go_enter Ybaf.func11, Ybaf.ntmps11
  by_cases hn0 : n = 0
  · subst hn0
    go_wp2
    go_ret
    exact HP0.out.fin (by have := HL.out; omega)
  have hn0' : ((n : Int) == 0) = false := by simp; omega
  have hpL0 : p0 < L := by have := HL.out; omega
  obtain ⟨sb, hsb⟩ : ∃ sb, tbit T 22 = sb := ⟨_, rfl⟩
  by_cases hz : units T 24 = 0 ∧ tbit T 22 = false
  · have e0 : (((units T 24 : Nat) : Int) * 4 == 0) = true := by rw [hz.1]; rfl
    have HZ : Hid (units T 24 = 0 ∧ tbit T 22 = false) := hz
    rw [if_neg (by simp [hz.2])] at h22
    clear hz hsb
    go_wp2_with (go_at_call 17; refine (new_calls _ _).mono ?_; rintro e' w' ⟨⟨t, x, rfl⟩, hb⟩; have HB : Hid (Below w.heap.size w w') := hb; clear hb)
    go_ret
    exact HP0.out.err HB.out hpL0 (.inl HZ.out) t x
  have HZ : Hid (¬ (units T 24 = 0 ∧ tbit T 22 = false)) := hz
  have HSB : Hid (tbit T 22 = sb) := hsb
  have hs22 : (bits .and .u32 (T : Int) 2 != 0) = sb := by rw [h22, hsb]; cases sb <;> rfl
  have e5 : (((units T 24 : Nat) : Int) * 4 == 0) = true → sb = true := fun e => by
    cases sb
    · exact absurd ⟨by simp at e; omega, hsb⟩ hz
    · rfl
  have HE5 : Hid ((((units T 24 : Nat) : Int) * 4 == 0) = true → sb = true) := e5
  clear h22 hz hsb e5
  go_upto_region 5 with fail
  go_cut [28] from 23 to 28 (fun s wx => s = .bool false ∧ wx = w)
  case first =>
    by_cases hu0 : units T 24 = 0
    · have e0 : (((units T 24 : Nat) : Int) * 4 == 0) = true := by rw [hu0]; rfl
      have hst := HE5.out e0
      subst hst
      clear hu0
      go_wp2_with fail
      go_meet
      exact ⟨rfl, rfl⟩
    · have e0 : (((units T 24 : Nat) : Int) * 4 == 0) = false := by simp; omega
      go_wp2_with fail
      go_meet
      exact ⟨rfl, rfl⟩
  case rest =>
  obtain ⟨rfl, hx⟩ := hcut
  replace hx := hx.symm
  subst hx
  go_upto_block 1 with fail
  clear c1 c4 HE5
  go_wp2_with fail
  go_loopg [1, 7] (L - p0) (fun k b sz wr => ∃ (ds : List Nat) (pos : Nat) (adk : Addr) (ck Tb1 C1 : Nat) (cur1 : Array Value), k = L - pos ∧ pos ≤ L ∧ L - pos ≤ ck ∧ b = .slice (some adk) (L - pos) ck ∧ Hid (PS w wr B0 tb Tb1 C1 cur1 ns fl rl T dv L p0 pos ds adk ad.block))
  case atStart => exact ⟨[], p0, ad, c, Tb, C, cur, rfl, by omega, by have := HL.out; omega, by rw [show L - p0 = n by have := HL.out; omega], HP0⟩
  case round =>
    clear HP0
    obtain ⟨ds, pos, adk, ck, Tb1, C1, cur1, rfl, hpL, hck, rfl, HPS⟩ := hrel
    by_cases hpos : pos < L
    · have hgt : (0 : Int) < ((L - pos : Nat) : Int) := by omega
      obtain ⟨m, hm⟩ : ∃ m, L - pos = m := ⟨_, rfl⟩
      have HM : Hid (L - pos = m) := hm
      rw [hm] at hgt hck ⊢
      clear hm
      obtain ⟨W, hW⟩ : ∃ W, want T dv pos m = W := ⟨_, rfl⟩
      have HW : Hid (want T dv pos m = W) := hW
      clear hW
      go_upto_if 34 with fail
      go_cut [7] from 30 to 141 (fun s wx => s = .int .i64 (W : Int) ∧ wx = wr)
      case first =>
        have hWe := HW.out
        unfold want at hWe
        rw [HSB.out] at hWe
        cases sb
        · go_wp2_with fail
          go_meet
          refine ⟨?_, rfl⟩
          rw [← hWe]
          simp
          omega
        · by_cases hf : 4 * units T 24 < m
          · rw [if_pos rfl, if_pos hf] at hWe
            have hf' : ((units T 24 : Nat) : Int) * 4 < (m : Int) := by omega
            have hcb := HPS.out.bs (4 * units T 24) (by rw [HM.out]; exact hf)
            rw [show 4 * units T 24 = units T 24 * 4 by omega] at hcb
            have hV := hd (pos + 4 * units T 24)
            rw [show 4 * units T 24 = units T 24 * 4 by omega] at hV hWe
            generalize dv (pos + units T 24 * 4) = V at hV hWe hcb
            obtain ⟨hV0, hV1⟩ := hV
            have HWe : Hid (units T 24 * 4 + (4 + 4 * V.toNat) = W) := hWe
            clear hWe
            go_wp2_with fail
            go_meet
            refine ⟨?_, rfl⟩
            rw [← HWe.out]
            simp
            omega
          · rw [if_pos rfl, if_neg hf] at hWe
            have hf' : ¬ ((units T 24 : Nat) : Int) * 4 < (m : Int) := by omega
            go_wp2_with fail
            go_meet
            refine ⟨?_, rfl⟩
            rw [← hWe]
            simp
            omega
      case rest =>
      obtain ⟨rfl, hx⟩ := hcut
      replace hx := hx.symm
      subst hx
      by_cases hfit : W ≤ m
      · have hfit' : (W : Int) ≤ (m : Int) := by omega
        obtain ⟨hbad, hnd, hsnd⟩ := want_fit HZ.out (show want T dv pos (L - pos) ≤ L - pos by rw [HM.out, HW.out]; exact hfit)
        rw [HM.out, HW.out] at hnd
        have HBAD : Hid (¬ bad L T dv pos ∧ W = need T dv pos ∧ (tbit T 22 = true → 4 * units T 24 + 4 ≤ need T dv pos)) := ⟨hbad, hnd, hsnd⟩
        clear hbad hnd hsnd
        have d5 : wr.cell? ⟨tb, 5, none⟩ = some (.slice (some ⟨Tb1, 0, none⟩) ds.length C1) := cell_of HPS.out.tr rfl
        have d4 : wr.cell? ⟨tb, 4, none⟩ = some (.int .u32 T) := cell_of HPS.out.tr rfl
        have g5 : wr.frozen? ⟨tb, 5, none⟩ = false := by have := HPS.out.tr; unfold TrAt at this; simp [World.frozen?, this]
        obtain ⟨dn, hdn⟩ : ∃ dn, ds.length = dn := ⟨_, rfl⟩
        have HDN : Hid (ds.length = dn) := hdn
        rw [hdn] at d5
        clear hdn
        go_upto_region 17 with fail
        go_quiet (fail)
        obtain ⟨wq, HQ⟩ : ∃ wq, Hid (wq = wr.drewN nq) := ⟨_, rfl⟩
        rw [← HQ.out]
        have HPQ : Hid (PS w wq B0 tb Tb1 C1 cur1 ns fl rl T dv L p0 pos ds adk ad.block) := HPS.out.keep (by rw [HQ.out]; exact below_drewN (Below.refl _ _) _) hab
        clear HQ d4 d5 g5
        have d5 : wq.cell? ⟨tb, 5, none⟩ = some (.slice (some ⟨Tb1, 0, none⟩) dn C1) := by rw [← HDN.out]; exact cell_of HPQ.out.tr rfl
        have g5 : wq.frozen? ⟨tb, 5, none⟩ = false := by have := HPQ.out.tr; unfold TrAt at this; simp [World.frozen?, this]
        go_upto_if 91 with fail
        go_cut [] from 30 to 141 (fun wx => ∃ Tb2 C2 cur2, Hid (PR w wx B0 tb Tb2 C2 cur2 ns fl rl T dv L p0 pos ds adk ad.block))
        case first =>
          by_cases hroom : dn < C1
          · go_upto_region 18 with fail
            have hdC : (dn : Int) + 1 ≤ (C1 : Int) := by omega
            have hdb : dn ≤ 1000000 := by have := HPQ.out.few; have := HL.out; have := HDN.out; omega
            have hcut := cut_n27 Tb1 dn C1 (dn + 1) (by omega)
            rw [show ((dn + 1 : Nat) : Int) = (dn : Int) + 1 by omega] at hcut
            have hwr : IntKind.i64.wrap ((dn : Int) + 1) = (dn : Int) + 1 := by rw [IntKind.wrap_i64]; omega
            have hpz : (0 : Int) ≤ (dn : Int) + 1 := by omega
            have htn : ((dn : Int) + 1).toNat = dn + 1 := by omega
            refine wp_tail 14 (by kernel_rfl) (by kernel_rfl) fun W2 hW2 => ?_
            have HP2 : Hid (PS w W2 B0 tb Tb1 C1 cur1 ns fl rl T dv L p0 pos ds adk ad.block) := HPQ.out.keep (by rw [hW2]; exact (Below.refl _ _).drew) hab
            clear d5 g5 hW2
            have d5 : W2.cell? ⟨tb, 5, none⟩ = some (.slice (some ⟨Tb1, 0, none⟩) dn C1) := by rw [← HDN.out]; exact cell_of HP2.out.tr rfl
            have g5 : W2.frozen? ⟨tb, 5, none⟩ = false := by have := HP2.out.tr; unfold TrAt at this; simp [World.frozen?, this]
            simp only [List.take_succ_cons, List.take_zero, List.drop_succ_cons, List.drop_zero]
            repeat still_step
            refine wpStill_nil ?_
            go_wp2_with fail
            go_meet
            refine ⟨Tb1, C1, cur1, ?_⟩
            have := HP2.out.slide (Below.refl _ _) (by rw [HDN.out]; exact hroom) htb hab
            rw [HDN.out] at this
            exact this
          · have hdC : C1 = dn := by have := HPQ.out.rn.len; rw [HDN.out] at this; omega
            subst hdC
            obtain ⟨Wp, C', hWp, hC1, hC2, happ⟩ := append_node' wq Tb1 C1 cur1 HPQ.out.rn.row HPQ.out.rn.size (by have := HPQ.out.few; have := HL.out; have := HDN.out; omega)
            have hgrow := HPQ.out.grow hWp HDN.out htb hab C' hC1 hC2
            have g5' : (Wp.alloc (.cells (cur1 ++ z19 ++ Builtin.zeroCells z19 (C' - (C1 + 1))) 34)).frozen? ⟨tb, 5, none⟩ = false := by
              have h1 := (Array.getElem?_eq_some_iff.1 HPQ.out.tr).1
              have h2 := ((hWp.alloc hWp.size (.cells (cur1 ++ z19 ++ Builtin.zeroCells z19 (C' - (C1 + 1))) 34)).block tb h1).trans HPQ.out.tr
              exact frozen_of h2
            have d5' : ∃ v, (Wp.alloc (.cells (cur1 ++ z19 ++ Builtin.zeroCells z19 (C' - (C1 + 1))) 34)).cell? ⟨tb, 5, none⟩ = some v := by
              have h1 := (Array.getElem?_eq_some_iff.1 HPQ.out.tr).1
              have h2 := ((hWp.alloc hWp.size (.cells (cur1 ++ z19 ++ Builtin.zeroCells z19 (C' - (C1 + 1))) 34)).block tb h1).trans HPQ.out.tr
              exact ⟨_, cell_of h2 rfl⟩
            obtain ⟨vv, d5'⟩ := d5'
            rw [HDN.out] at hgrow
            obtain ⟨W3, HW3⟩ : ∃ W3, Hid (W3 = Wp.alloc (.cells (cur1 ++ z19 ++ Builtin.zeroCells z19 (C' - (C1 + 1))) 34)) := ⟨_, rfl⟩
            rw [← HW3.out] at hgrow g5' d5' happ
            have HG : Hid (PR w _ B0 tb _ _ _ ns fl rl T dv L p0 pos ds adk ad.block) := hgrow
            have HAPP : Hid (_ = _) := happ
            clear happ hgrow hWp HW3
            go_upto_region 19 with fail
            go_wp2_with (at_builtin; refine wpList_append_run rfl (.tmp 110) (.tmp 112) 27 27 rfl _ _ rfl rfl _ _ HAPP.out ?_)
            go_meet
            exact ⟨_, _, _, HG⟩
        case rest =>
        obtain ⟨Tb2, C2, cur2, HPR⟩ := hcut
        clear HPQ d5 g5
        have hdb : dn ≤ 1000000 := by have := HPS.out.few; have := HL.out; have := HDN.out; omega
        go_upto_region 20 with fail
        refine wp_tail 22 (by kernel_rfl) (by kernel_rfl) fun W2 hW2 => ?_
        have HR2 : Hid (PR w W2 B0 tb Tb2 C2 cur2 ns fl rl T dv L p0 pos ds adk ad.block) := HPR.out.keep (by rw [hW2]; exact (Below.refl _ _).drew)
        clear HPR hW2
        have d5 : W2.cell? ⟨tb, 5, none⟩ = some (.slice (some ⟨Tb2, 0, none⟩) (dn + 1) C2) := by rw [← HDN.out]; exact cell_of HR2.out.tr rfl
        have d4 : W2.cell? ⟨tb, 4, none⟩ = some (.int .u32 T) := cell_of HR2.out.tr rfl
        have hUW : 4 * units T 24 ≤ W := by have := HBAD.out.2.1; rw [this]; unfold need; omega
        have q1 := cutH adk m ck (4 * units T 24) (((units T 24 : Nat) : Int) * 4) (by omega) (by omega)
        have q2 := cutLH adk m ck (4 * units T 24) W (((units T 24 : Nat) : Int) * 4) W (by omega) rfl hUW (by omega)
        have q3 := cutL adk m ck W W rfl hfit hck
        simp only [List.take_succ_cons, List.take_zero, List.drop_succ_cons, List.drop_zero]
        have hwr : IntKind.i64.wrap (dn : Int) = (dn : Int) := by rw [IntKind.wrap_i64]; omega
        have hwr2 : IntKind.i64.wrap ((dn : Int) + 1 - 1) = (dn : Int) := by rw [IntKind.wrap_i64]; omega
        have hdl : (dn : Int) < (dn : Int) + 1 := by omega
        repeat still_step
        refine wpStill_nil ?_
        obtain ⟨Uv, l, xs, v1, v2, v3, v4⟩ := HR2.out.rn.und ds.length HR2.out.room
        have hrow := HR2.out.rn.row
        have hnd := HBAD.out.2.1
        have hTs : Tb2 < W2.heap.size := (Array.getElem?_eq_some_iff.1 hrow).1
        have hmul : (ds.length + 1) * 19 ≤ C2 * 19 := Nat.mul_le_mul_right _ HR2.out.room
        have hneT : adk.block ≠ Tb2 := by have := HR2.out.rn.base; have := HR2.out.blk; omega
        have hla : adk.block < W2.heap.size := by have := HR2.out.size; have := HR2.out.blk; omega
        have hUa : Uv.ownBlock ≠ some adk.block := fun e => by have := (v2.lt _ e).1; have := HR2.out.blk; omega
        have hbm : BsAt W2 adk m dv pos := by rw [← HM.out]; exact HR2.out.bs
        have hb1 : BsAt W2 adk (4 * units T 24) dv pos := fun i hi => hbm i (by omega)
        have hb2 := hbm.cut ck (4 * units T 24) W hUW hfit hck
        have hcal := parseNode_calls T hT nv Tb2 (ds.length * 19) cur2 adk (4 * units T 24) ck pos (cutA adk ck (4 * units T 24)) (W - 4 * units T 24) (ck - 4 * units T 24) (pos + 4 * units T 24) dv Uv l xs B0 W2 (HT.out.keep HR2.out.below h1B) (by have := HR2.out.size; omega) hd hb1 hb2 (by omega) (by omega) (Nat.le_refl _) (fun e => by have := HBAD.out.2.2 e; omega) hrow (by have := HR2.out.rn.size; omega) (by have := HR2.out.rn.base; omega) hneT (by rw [cutA_block]; exact hneT) hla (by rw [cutA_block]; exact hla) v1 v2 v3 hUa (by rw [cutA_block]; exact hUa) HR2.out.size
        have HCAL : Hid (Calls Ybaf.prog 18 _ _ _) := hcal
        have HV1 : Hid (cur2[ds.length * 19 + 16]? = some Uv) := v1
        clear hcal v1 v2 v3 v4 hrow hbm hb1 hb2 hUa hnd d4 d5 q1 q2
        rw [HDN.out] at HCAL
        go_wp2_with (go_at_call 18; refine HCAL.out.mono ?_; rintro e' w3 ⟨⟨v, rfl⟩, U', hst, hown, hlie⟩; have HST : Hid (_ ∧ _ ∧ _) := ⟨hst, hown, hlie⟩; clear hst hown hlie)
        go_roundg (L - (pos + need T dv pos))
        case measure =>
          have h1 := HBAD.out.1
          have h2 := need_ge h1
          omega
        case rel =>
          obtain ⟨hst, hown, hlie⟩ := HST.out
          have h1 := HBAD.out.1
          have hnd := HBAD.out.2.1
          have h2 := need_ge h1
          rw [← HDN.out, hnd] at hst
          have hnx := HR2.out.next HPS.out hpos h1 (by rw [HM.out]; exact hck) hab HV1.out (c2 := ck - 4 * units T 24) hst hown hlie (by omega)
          refine ⟨ds ++ [pos], pos + need T dv pos, cutA adk ck W, ck - W, Tb2, C2, _, rfl, by omega, by have := HM.out; omega, ?_, by rw [hnd]; exact hnx⟩
          rw [show L - (pos + need T dv pos) = m - W by have := HM.out; omega]
      · have hfit' : ¬ (W : Int) ≤ (m : Int) := by omega
        have HBAD : Hid (bad L T dv pos) := want_bad (by rw [HM.out, HW.out]; omega)
        cases sb
        · go_wp2_with (go_at_call 10; refine (errorf2_calls F _ fmtEnds _ _ (.inl ⟨(W : Int), rfl⟩) (.inl ⟨(m : Int), rfl⟩) wr.heap.size _ (by exact (show F.answers wr.tape by rw [HPS.out.below.tape]; exact HF.out)) (by go_simp) (by go_simp)).mono ?_; rintro e' w2 ⟨⟨t, x, rfl⟩, hb⟩; have HB : Hid (Below wr.heap.size wr w2) := ((Below.refl _ _).alloc (Nat.le_refl _) _).trans (hb.mono (by simp)); clear hb)
          go_ret
          exact HPS.out.err HB.out hpos HBAD.out t x
        · go_upto_region 14 with fail
          by_cases hf : 4 * units T 24 + 4 ≤ m
          · have hf' : ((units T 24 : Nat) : Int) * 4 + 4 ≤ (m : Int) := by omega
            have hf2 : ((units T 24 : Nat) : Int) * 4 < (m : Int) := by omega
            have hmb : (m : Int) ≤ 2097152 := by have := HM.out; have := HL.out; have := HPS.out.few; omega
            have hcb := HPS.out.bs (4 * units T 24) (by rw [HM.out]; omega)
            rw [show 4 * units T 24 = units T 24 * 4 by omega] at hcb
            generalize dv (pos + units T 24 * 4) = V at hcb
            go_wp2_with (go_at_call 10; refine (errorf2_calls F _ fmtOpaque _ _ (.inr ⟨V, rfl⟩) (.inl ⟨(m : Int) - ((units T 24 : Nat) : Int) * 4 - 4, rfl⟩) wr.heap.size _ (by exact (show F.answers wr.tape by rw [HPS.out.below.tape]; exact HF.out)) (by go_simp) (by go_simp)).mono ?_; rintro e' w2 ⟨⟨t, x, rfl⟩, hb⟩; have HB : Hid (Below wr.heap.size wr w2) := ((Below.refl _ _).alloc (Nat.le_refl _) _).trans (hb.mono (by simp)); clear hb)
            go_ret
            exact HPS.out.err HB.out hpos HBAD.out t x
          · have hf' : ¬ ((units T 24 : Nat) : Int) * 4 + 4 ≤ (m : Int) := by omega
            go_wp2_with (go_at_call 10; refine (errorf2_calls F _ fmtEnds _ _ (.inl ⟨(W : Int), rfl⟩) (.inl ⟨(m : Int), rfl⟩) wr.heap.size _ (by exact (show F.answers wr.tape by rw [HPS.out.below.tape]; exact HF.out)) (by go_simp) (by go_simp)).mono ?_; rintro e' w2 ⟨⟨t, x, rfl⟩, hb⟩; have HB : Hid (Below wr.heap.size wr w2) := ((Below.refl _ _).alloc (Nat.le_refl _) _).trans (hb.mono (by simp)); clear hb)
            go_ret
            exact HPS.out.err HB.out hpos HBAD.out t x
    · have hgt : ¬ (0 : Int) < ((L - pos : Nat) : Int) := by omega
      go_wp2
      go_ret
      exact HPS.out.fin (by omega)
end Go.Proofs.YbulkdycwFmt
