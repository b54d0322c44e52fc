/- io.ReadAll over the law's own reader. -/
import Derived.Test.YbulkdxzcDoorInv
import Derived.LaidEql
namespace Go.Proofs.YbulkdxzcDoor
open Go.RowKit
set_option linter.unusedSimpArgs false
set_option linter.unusedVariables false

theorem eql_same (a : Addr) (w : World) : (binOp .eql 25 (.iface 48 (.pointer (some a))) (.iface 48 (.pointer (some a)))).run Ybad.prog w = .ok (.bool true) w := by
  have h : ∃ i, Ybad.prog.info? 48 = some i ∧ i.comparable = true := by
    have h : (Ybad.prog.info? 48).map (·.comparable) = some true := by kernel_rfl
    obtain ⟨i, hi, hz⟩ := Option.map_eq_some_iff.1 h
    exact ⟨i, hi, hz⟩
  have h2 : ∃ j, Ybad.prog.info? 50 = some j := by
    have h : (Ybad.prog.info? 50).isSome = true := by kernel_rfl
    exact Option.isSome_iff_exists.1 h
  obtain ⟨i, hi, hc⟩ := h
  obtain ⟨j, hj⟩ := h2
  exact run_eql_iface_ptr_same w a Ybad.underlying25 Ybad.underlying48 hi hc hj

set_option maxRecDepth 100000 in
set_option maxHeartbeats 2000000 in
theorem readAll (R cap0 n s : Nat) (a0 : Option Addr) (dv : Nat → Int) (fail wd : Bool) (ea es : Addr) (w : World) (B0 : Nat)
    (hn : n ≤ 1048576) (hs : 1 ≤ s ∧ s ≤ 16) (hD : Data w a0 n cap0 dv B0) (hB0 : B0 ≤ R) (hRs : R < w.heap.size) (hR0 : 0 ≠ R)
    (hR : w.heap[R]? = some (.cells #[.slice a0 n cap0, .int .i64 (0 : Nat), .int .i64 s, .bool fail, .bool wd, .iface 48 (.pointer (some es))] 29 (0, 0)))
    (he : w.cell? ⟨0, 0, none⟩ = some (.iface 48 (.pointer (some ea))))
    (hne : ∀ W : World, (∀ i, i < w.heap.size → i ≠ R → W.heap[i]? = w.heap[i]?) → (binOp .eql 25 (.iface 48 (.pointer (some es))) (.iface 48 (.pointer (some ea)))).run Ybad.prog W = .ok (.bool false) W) :
    Calls Ybad.prog 8 #[.iface 27 (.pointer (some ⟨R, 0, none⟩))] w fun e w' => ∃ v, e = .returned (.tuple #[v, if fail = true then .iface 48 (.pointer (some es)) else .nilIface]) ∧ Rdone R n #[.slice a0 n cap0, .int .i64 n, .int .i64 s, .bool fail, .bool wd, .iface 48 (.pointer (some es))] dv v w w' := by
  obtain ⟨rc, hrc⟩ : ∃ rc : Nat → Array Value, ∀ k, rc k = #[.slice a0 n cap0, .int .i64 k, .int .i64 s, .bool fail, .bool wd, .iface 48 (.pointer (some es))] := ⟨_, fun _ => rfl⟩
  rw [← hrc] at hR
  have HR : Hid _ := hR
  have HC : Hid _ := hrc
  have HD : Hid (Data w a0 n cap0 dv B0) := hD
  have HE : Hid _ := he
  have HQ : Hid _ := hne
  clear hR hrc hD he hne
  have hna := nil_ahead
  have hmr := method_read
  have hm5 := make512
  have hm4 := make4
  go_enter Ybad.func8, Ybad.ntmps8
  go_wp2
  go_loopw [4, 5, 6, 7] (fun b nx ch fs wr => ∃ (g cap len nxn fsn : Nat) (C : List (Nat × Nat × Nat)), b = .slice (some ⟨g, 0, none⟩) len cap ∧ nx = .int .i64 nxn ∧ fs = .int .i64 fsn ∧ len < cap ∧ RA w.heap.size R n g cap len nxn fsn ch C rc dv w wr) (fun b nx ch fs _ => n - ((intOf fs).toNat + lenV b))
  case atStart => exact ⟨_, _, _, _, _, _, rfl, rfl, rfl, by omega, RA.start R n rc dv w HR.out⟩
  case round =>
    clear hm5 hm4
    obtain ⟨g, cap, len, nxn, fsn, C, rfl, rfl, rfl, hroom, hA⟩ := hrel
    obtain ⟨cur, hrow, hcl, hct⟩ := hA.row
    have hcM := hA.capM
    have hkn := hA.kn
    have hgB := hA.gB
    have hgR : R ≠ g := by omega
    have hg0 : 0 ≠ g := by omega
    have hDr : Data wr a0 n cap0 dv B0 := by
      refine ⟨HD.out.1, HD.out.2.1, fun h => ?_⟩
      obtain ⟨b, off, e1, e2, e3⟩ := HD.out.2.2 h
      exact ⟨b, off, e1, e2, fun i hi => (World.cell?_of_block (a := ⟨b, off + i, none⟩) (hA.other b (by omega) (by omega))).trans (e3 i hi)⟩
    have her : wr.cell? ⟨0, 0, none⟩ = some (.iface 48 (.pointer (some ea))) := (World.cell?_of_block (a := ⟨0, 0, none⟩) (hA.other 0 (by omega) hR0)).trans HE.out
    have hrd := hA.rd
    rw [HC.out] at hrd
    have hcM' : cap ≤ 9223372036854775807 := by unfold maxLen at hcM; exact hcM
    have HDr : Hid _ := hDr
    have Hrd : Hid _ := hrd
    have Hrow : Hid _ := hrow
    have Hher : Hid _ := her
    clear hDr hrd hrow her
    go_wp2_with fail
    go_cut [8, 9] (fun nv ev wx => nv = .int .i64 (took s n (fsn + len) (cap - len) : Nat) ∧ ev = rerr n (fsn + len) (took s n (fsn + len) (cap - len)) fail wd (.iface 48 (.pointer (some es))) (.iface 48 (.pointer (some ea))) ∧ Rd R g len cur (seg dv (fsn + len) (took s n (fsn + len) (cap - len))) (rc (fsn + len + took s n (fsn + len) (cap - len))) wr wx)
    case first =>
      go_region_with (go_at_call 24; refine (read R g len (cap - len) (cap - len) cap0 n (fsn + len) s a0 dv fail wd _ cur wr.drew B0 hkn hn hs (by omega) (by exact HDr.out) hB0 (by omega) hgR (by exact Hrd.out) (by exact Hrow.out) (by omega) _ (by exact Hher.out) hg0 hR0).mono ?_; rintro e' w1 ⟨rfl, hRd⟩; have hRd2 := hRd.ofDrew; rw [← HC.out] at hRd2; clear hRd)
      all_goals go_wp2
      all_goals
        go_meet
        case rel => exact ⟨rfl, rfl, hRd2⟩
    case rest =>
      obtain ⟨rfl, rfl, hRd⟩ := hcut
      obtain ⟨m, hm⟩ : ∃ m, m = took s n (fsn + len) (cap - len) := ⟨_, rfl⟩
      rw [← hm] at hRd ⊢
      have hm1 : m ≤ cap - len := by rw [hm]; exact took_le.1
      have hm2 : fsn + len + m ≤ n := by rw [hm]; exact took_le.2 hkn
      have hm3 : fsn + len < n → 0 < m := fun h => by rw [hm]; exact took_pos hs.1 (by omega) h
      have hA2 := hA.read hRs Hrow.out hcl hct hm1 hm2 hRd
      clear hRd hm hA Hrow hcl hct HDr Hrd Hher
      have hlm : (len : Int) + (m : Int) ≤ (cap : Int) := by omega
      have hlt : ((len : Int) + (m : Int)).toNat = len + m := by omega
      by_cases hE : fsn + len + m = n ∧ ¬ (0 < m ∧ wd = false)
      · have hev : rerr n (fsn + len) m fail wd (.iface 48 (.pointer (some es))) (.iface 48 (.pointer (some ea))) = if fail = true then .iface 48 (.pointer (some es)) else .iface 48 (.pointer (some ea)) := by
          unfold rerr; rw [if_pos hE.1, if_neg hE.2]
        rw [hev]
        clear hev hm3
        have hEn : fsn + (len + m) = n := by omega
        clear hE
        have her : wc.cell? ⟨0, 0, none⟩ = some (.iface 48 (.pointer (some ea))) := (World.cell?_of_block (a := ⟨0, 0, none⟩) (hA2.other 0 (by omega) hR0)).trans HE.out
        have hq1 := HQ.out wc hA2.other
        have hq2 := eql_same ea
        obtain ⟨ao, cap6, rfl, hform⟩ := own_form hA2.own
        have hgs : g < wc.heap.size := by obtain ⟨c, hc, _⟩ := hA2.row; exact lt_of_heap hc
        rcases Nat.eq_zero_or_pos C.length with hC0 | hC0
        · obtain rfl : C = [] := List.eq_nil_of_length_eq_zero hC0
          have hD0 := hA2.done0 hRs hEn
          rw [HC.out] at hD0
          clear hA2 hform hC0
          cases fail
          all_goals
            go_wp2
            go_ret2
            exact ⟨_, rfl, by simpa [hlt] using hD0⟩
        · have hC1 : ((C.length : Int) == 0) = false := by rw [beq_eq_false_iff_ne]; omega
          have hfs : 1 ≤ fsn := by have := hA2.clen; omega
          have hCl : C.length ≤ 1048576 := by have := hA2.clen; omega
          have hfn : (fsn : Int) + ((len : Int) + (m : Int)) = (n : Int) := by omega
          obtain ⟨q, rfl, hq0, hqs, hqc⟩ : ∃ q, ao = some ⟨q, 0, none⟩ ∧ w.heap.size ≤ q ∧ q < wc.heap.size ∧ ∀ (j : Nat) (u : Value), (vals C)[j]? = some u → wc.cell? ⟨q, j, none⟩ = some u := by
            rcases hform with ⟨_, h⟩ | h
            · omega
            · exact h
          have HQC : Hid _ := hqc
          have HA : Hid _ := hA2
          obtain ⟨i5, hi5, hz0, hz1, hz2⟩ := info_parts info5
          clear hform hqc hA2
          cases fail
          all_goals
            go_wp2_with (at_builtin; refine wpList_append_eq rfl (.const (.slice none 0 0)) (.tmp 49) #[22, 3] rfl _ _ rfl rfl _ _ (fun ty => run_append_make n (by omega) (by omega) ty _) ?_)
            go_loopw [10, 54] (fun fv iv wx => ∃ i : Nat, i ≤ C.length ∧ iv = .int .i64 i ∧ wx.ownsRow wc.heap.size 5 1 fv (total (C.take i)) (seg dv 0 (total (C.take i))) ∧ Below wc.heap.size wc wx ∧ wc.heap.size ≤ wx.heap.size) (fun _ iv _ => C.length - (intOf iv).toNat)
            case atStart => exact ⟨0, by omega, rfl, own_start dv n hn wc, below_start n wc, by simp⟩
            case round =>
              obtain ⟨i, hiC, rfl, hown, hbel, hsz⟩ := hrel
              obtain ⟨af, capf, rfl, _⟩ := own_form hown
              by_cases hi : i < C.length
              · have hlt2 : (i : Int) < (C.length : Int) := by omega
                obtain ⟨hc1, hc2, hcp⟩ := Chunks.at hi HA.out.chunks
                have hcell : wr.cell? ⟨q, i, none⟩ = some (.slice (some ⟨C[i].1, 0, none⟩) C[i].2.1 C[i].2.2) := (hbel.cell hqs).trans (HQC.out i _ (vals_at hi))
                have htot : total (C.take i) + C[i].2.1 ≤ 1048576 := by rw [← total_take_succ C i hi]; have := total_take_le C (i + 1); have := HA.out.tot; omega
                have HP : Hid _ := (hcp.keep (hbel.block _ (by omega))).cells
                have HO : Hid _ := hown
                have HL : Hid _ := hbel
                clear hown hbel hcp
                go_wp2_with (at_builtin; refine wpList_append_own _ rfl (.tmp 58) (.tmp 59) 22 rfl wc.heap.size 5 i5 (.int .u8 0) 1 1 Ybad.underlying22 hi5 hz0 hz1 hz2 rfl (by decide) _ _ _ rfl HO.out ⟨C[i].1, 0, none⟩ C[i].2.1 C[i].2.2 (seg dv (0 + total (C.take i)) C[i].2.1) rfl (by rw [length_seg, Nat.mul_one]) HP.out (seg_one _ _ _) (by unfold maxLen; omega) (by omega) hsz ?_; intro v' w1 hown' hgrow _; have HG : Hid _ := gather hown' HL.out hsz HO.out hgrow; have hsz1 : wc.heap.size ≤ w1.heap.size := Nat.le_trans hsz hgrow.size; clear hown' hgrow)
                go_roundw
                case rel => exact ⟨i + 1, by omega, by go_num, by rw [total_take_succ C i hi]; exact HG.out.1, HG.out.2, hsz1⟩
                case measure => simp [intOf]; omega
              · have hlt2 : ¬ (i : Int) < (C.length : Int) := by omega
                obtain rfl : i = C.length := by omega
                have htt : total (C.take C.length) = fsn := by rw [List.take_length]; exact HA.out.tot
                rw [htt] at hown ⊢
                have HP : Hid _ := (HA.out.piece.keep (hbel.block _ hgs)).cells
                have HO : Hid _ := hown
                have HL : Hid _ := hbel
                clear hown hbel
                go_wp2_with (at_builtin; refine wpList_append_own _ rfl (.tmp 62) (.tmp 63) 22 rfl wc.heap.size 5 i5 (.int .u8 0) 1 1 Ybad.underlying22 hi5 hz0 hz1 hz2 rfl (by decide) _ _ _ rfl HO.out ⟨g, 0, none⟩ (len + m) cap (seg dv (0 + fsn) (len + m)) rfl (by rw [length_seg, Nat.mul_one]) (by rw [Nat.zero_add]; exact HP.out) (seg_one _ _ _) (by unfold maxLen; omega) (by omega) hsz ?_; intro v' w1 hown' hgrow _; have HG : Hid _ := gather hown' HL.out hsz HO.out hgrow; clear hown' hgrow)
                go_ret2
                have hG := HG.out
                rw [hEn] at hG
                have hD1 := HA.out.done1 hRs hEn rfl hG.1 hG.2
                rw [HC.out] at hD1
                exact ⟨_, rfl, hD1⟩
      · have hev : rerr n (fsn + len) m fail wd (.iface 48 (.pointer (some es))) (.iface 48 (.pointer (some ea))) = .nilIface := by
          unfold rerr
          by_cases h : fsn + len + m = n
          · rw [if_pos h, if_pos (by by_cases h2 : 0 < m ∧ wd = false; exact h2; exact absurd ⟨h, h2⟩ hE)]
          · rw [if_neg h]
        rw [hev]
        have hmp : 0 < m := by
          by_cases h : fsn + len < n
          · exact hm3 h
          · exact Nat.pos_of_ne_zero fun h0 => hE ⟨by omega, by omega⟩
        clear hev hE hm3
        go_upto_if 75 with fail
        by_cases hf : cap - (len + m) < cap / 16
        · have hf' : (cap : Int) - ((len : Int) + (m : Int)) < (cap : Int) / 16 := by omega
          have hx1 := hA2.nx1
          have hx2 : nxn ≤ 4194304 := by have := hA2.nx2; omega
          have hCl : C.length ≤ 1048576 := by have := hA2.clen; omega
          obtain ⟨i22, hi22, hy0, hy1, hy2⟩ := info_parts info22
          have hown := hA2.own.alloc (.cells #[.slice (some ⟨g, 0, none⟩) (len + m) cap] 22)
          have hBs : w.heap.size ≤ (wc.alloc (.cells #[.slice (some ⟨g, 0, none⟩) (len + m) cap] 22)).heap.size := by obtain ⟨c, hc, _⟩ := hA2.row; have := lt_of_heap hc; have := hA2.gB; simp; omega
          have hnw := cell_one_new wc (.slice (some ⟨g, 0, none⟩) (len + m) cap) 22
          have HO : Hid _ := hown
          have HB : Hid _ := hBs
          have HN : Hid _ := hnw
          clear hown hBs hnw
          go_upto_region 22 with fail
          go_wp2_with (first | (at_builtin; refine wpList_append_own _ rfl (.tmp 76) (.tmp 78) 55 rfl w.heap.size 22 i22 (.slice none 0 0) 1 24 Ybad.underlying55 hi22 hy0 hy1 hy2 rfl (by decide) _ _ _ rfl HO.out ⟨wc.heap.size, 0, none⟩ 1 1 [.slice (some ⟨g, 0, none⟩) (len + m) cap] rfl rfl HN.out (by simp [Value.oneCell']) (by unfold maxLen; omega) (by omega) HB.out ?_; intro v' w1 hown' hgrow _; have HA3 : Hid _ := hA2.move hRs (by omega) hn hown' hgrow; clear hown' hgrow) | (at_builtin; refine wpList_append_eq rfl (.const (.slice none 0 0)) (.tmp 84) #[22, 3] rfl _ _ rfl rfl _ _ (fun ty => run_append_make nxn (by omega) (by omega) ty _) ?_))
          go_roundw
          case rel => exact ⟨_, _, 0, nxn + nxn / 2, fsn + (len + m), _, rfl, by go_num, by go_num, by have := HA3.out.cap2; omega, HA3.out⟩
          case measure => simp [intOf, lenV]; omega
        · have hf' : ¬ (cap : Int) - ((len : Int) + (m : Int)) < (cap : Int) / 16 := by omega
          go_wp2
          go_roundw
          case rel => exact ⟨_, _, len + m, _, _, _, by simp, rfl, rfl, by have := hA2.cap2; omega, hA2⟩
          case measure => simp [intOf, lenV]; omega
end Go.Proofs.YbulkdxzcDoor
