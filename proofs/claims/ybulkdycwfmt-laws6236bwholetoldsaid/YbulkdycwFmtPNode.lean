/- parseNode: by contract: the walk. -/
import Derived.Test.YbulkdycwFmtNode
namespace Go.Proofs.YbulkdycwFmt
open Go.RowKit
set_option linter.unusedSimpArgs false
set_option linter.unusedVariables false

theorem own_form {w : World} {B n : Nat} {e : TypeId} {sz : Nat} {v : Value} {xs : List Value} (h : w.ownsRow B e sz v n xs) : ∃ p cap, v = .slice p n cap := by
  rcases h.2 with ⟨rfl, rfl⟩ | ⟨T, cap, cur, rfl, _⟩
  · exact ⟨none, 0, rfl⟩
  · exact ⟨_, cap, rfl⟩
theorem own_cut0 {w : World} {B n cap : Nat} {e : TypeId} {sz : Nat} {p : Option Addr} {xs : List Value} (h : w.ownsRow B e sz (.slice p n cap) n xs) : w.ownsRow B e sz (.slice p 0 cap) 0 [] := by
  rcases h.2 with ⟨h1, h2⟩ | ⟨g, cap', cur, h1, hb, hg, hn, hm, hc, ht⟩
  · simp only [Value.slice.injEq] at h1
    obtain ⟨rfl, rfl, rfl⟩ := h1
    exact ⟨by simp, .inl ⟨rfl, rfl⟩⟩
  · simp only [Value.slice.injEq] at h1
    obtain ⟨rfl, _, rfl⟩ := h1
    exact ⟨by simp, .inr ⟨g, cap, cur, rfl, hb, hg, Nat.zero_le _, hm, hc, by simp⟩⟩
theorem size23 (w : World) : (sizeOf 23).run Ybaf.prog w = .ok 1 w := by kernel_rfl
theorem elem30 : Ybaf.prog.elem 30 = 23 := by kernel_rfl
theorem cut30 (p : Option Addr) (n c : Nat) (w : World) : (Instr.slice 30 (.slice p n c) none (some (.int .i64 0)) none).run Ybaf.prog w = .ok (.slice p 0 c) w := by
  have ht : Ybaf.prog.underlying 30 = some (.slice (Ybaf.prog.elem 30)) := by rw [elem30]; exact Ybaf.underlying30
  rw [run_slice_h w 30 p n c ht .i64 _ (by omega) (by omega), elem30, size23]
  cases p <;> simp [Result.andThen_ok, sliced, Addr.add]

/-- The node's row behind parseNode. -/
def nrow (cur : Array Value) (o T : Nat) (dv : Nat → Int) (p ps : Nat) (sv U' : Value) : Array Value :=
  if tbit T 22 = true then (((frow (setAll cur o z19.toList) o T dv p 16).setIfInBounds (o + 16) U').setIfInBounds (o + 17) (.int .u32 (be dv (ps + 1) 3))).setIfInBounds (o + 18) sv
  else (frow (setAll cur o z19.toList) o T dv p 16).setIfInBounds (o + 16) U'

/-- The bit of round i, and its tests. -/
theorem bit_facts (i : Nat) (hi : i < 10) : bits .and .u32 ((2 ^ (11 - i) : Nat) : Int) 4092 = ((2 ^ (11 - i) : Nat) : Int) ∧ ((2 ^ (11 - i) : Nat) : Int) / 2 = ((2 ^ (11 - (i + 1)) : Nat) : Int) ∧ 2 ^ (11 - (i + 1)) < 2 ^ (11 - i) := by
  have h : ∀ j : Fin 10, bits .and .u32 ((2 ^ (11 - j.val) : Nat) : Int) 4092 = ((2 ^ (11 - j.val) : Nat) : Int) ∧ ((2 ^ (11 - j.val) : Nat) : Int) / 2 = ((2 ^ (11 - (j.val + 1)) : Nat) : Int) ∧ 2 ^ (11 - (j.val + 1)) < 2 ^ (11 - j.val) := by decide +kernel
  exact h ⟨i, hi⟩
theorem and_undef (T i : Nat) (hT : T < 16777216) (hi : i < 10) : bits .and .u32 (T : Int) ((2 ^ (11 - i) : Nat) : Int) = if tbit T (12 + i) = true then ((2 ^ (11 - i) : Nat) : Int) else 0 := by
  rw [and_pow T (11 - i) (by omega) (by omega)]
  have e : 23 - (12 + i) = 11 - i := by omega
  by_cases h : T / 2 ^ (11 - i) % 2 = 1
  · rw [if_pos h, if_pos (by simp [tbit, e, h])]
  · rw [if_neg h, if_neg (by simp [tbit, e, h])]
theorem z19_one : z19.all (·.oneCell') = true := by simp [Value.oneCell']
theorem info34 : (Ybaf.prog.info? 34).map (·.size) = some z19.size := by kernel_rfl
theorem info23 : (Ybaf.prog.info? 23).map (fun i => (i.zero, i.size, i.bytes)) = some (some (.int .u32 0), 1, 4) := by kernel_rfl

set_option maxRecDepth 100000 in
set_option maxHeartbeats 2000000 in
theorem parseNode_calls (T : Nat) (hT : T < 16777216) (nv : Nat → ByteArray) (Tb o : Nat) (cur : Array Value) (ad : Addr) (n c p : Nat) (ad2 : Addr) (n2 c2 ps : Nat) (dv : Nat → Int) (U : Value) (l : Nat) (xs : List Value) (B0 : Nat) (w : World)
    (ht : Table w nv) (hw : 1 < w.heap.size) (hd : Bytes dv) (hb : BsAt w ad n dv p) (hb2 : BsAt w ad2 n2 dv ps) (hnc : n ≤ c) (hnc2 : n2 ≤ c2) (hfix : 4 * units T 24 ≤ n) (hsn : tbit T 22 = true → 4 ≤ n2)
    (hr : w.heap[Tb]? = some (.cells cur 34 (0, 0))) (ho : o + 19 ≤ cur.size) (hTb : 1 < Tb) (hne : ad.block ≠ Tb) (hne2 : ad2.block ≠ Tb) (hab : ad.block < w.heap.size) (hab2 : ad2.block < w.heap.size)
    (hU : cur[o + 16]? = some U) (hown : w.ownsRow B0 23 1 U l xs) (hUT : U.ownBlock ≠ some Tb) (hUa : U.ownBlock ≠ some ad.block) (hUa2 : U.ownBlock ≠ some ad2.block) (hB0 : B0 ≤ w.heap.size) :
    Calls Ybaf.prog 18 #[.pointer (some ⟨Tb, o, none⟩), .int .u32 (T : Int), .slice (some ad) n c, .slice (some ad2) n2 c2] w fun e w' => (∃ v, e = .returned v) ∧ ∃ U' : Value,
      NStep Tb (nrow cur o T dv p ps (.slice (some (cutA ad2 c2 4)) (n2 - 4) (c2 - 4)) U') U.ownBlock w w' ∧ w'.ownsRow B0 23 1 U' (und T dv (p + ssum T 16) 10).length ((und T dv (p + ssum T 16) 10).map (Value.int .u32)) ∧ (U'.ownBlock = U.ownBlock ∨ ∃ g, U'.ownBlock = some g ∧ w.heap.size ≤ g) := by
  have hTs : Tb < w.heap.size := (Array.getElem?_eq_some_iff.1 hr).1
  have hfe := fixed_eq T dv (p + ssum T 16)
  obtain ⟨i23, hi23, hz0', hz1', hz2'⟩ := info_parts info23
  obtain ⟨pU, capU, rfl⟩ := own_form hown
  obtain ⟨Uo, hUo⟩ : ∃ Uo : Option Nat, (Value.slice pU l capU).ownBlock = Uo := ⟨_, rfl⟩
  have hUo' : (Value.slice pU 0 capU).ownBlock = Uo := by rw [← hUo]; cases pU <;> rfl
  rw [hUo] at hUT hUa hUa2 ⊢
  have HT : Hid (Table w nv) := ht
  have HR : Hid (w.heap[Tb]? = some (.cells cur 34 (0, 0))) := hr
  have HB : Hid (BsAt w ad n dv p) := hb
  have HB2 : Hid (BsAt w ad2 n2 dv ps) := hb2
  have HO : Hid (w.ownsRow B0 23 1 (.slice pU l capU) l xs) := hown
  have HU : Hid (Uo ≠ some Tb ∧ Uo ≠ some ad.block ∧ Uo ≠ some ad2.block) := ⟨hUT, hUa, hUa2⟩
  have c16 := cell_of hr hU
  have qU := cut30 pU l capU
  have HW0 : Hid (w.there Tb o z19.size) := there_of hr (by simpa using ho)
  clear ht hr hb hb2 hown hUT hUa hUa2 hU
  go_enter Ybaf.func18, Ybaf.ntmps18
  go_upto_region 1 with fail
  go_upto_region 2 with (refine wpList_store_mid rfl 34 (.tmp 17) (.tmp 16) rfl Tb o z19 rfl rfl HW0.out info34 z19_one ?_)
  obtain ⟨W1, HW1⟩ : ∃ W : World, Hid (W = w.setCells Tb o [.int .u64 0, .int .u64 0, .int .u64 0, .int .u64 0, .int .u64 0, .int .u64 0, .int .u64 0, .int .u64 0, .int .u64 0, .int .u64 0, .int .u64 0, .int .u64 0, .int .u64 0, .int .u64 0, .int .u64 0, .int .u64 0, .slice none 0 0, .int .u32 0, .slice none 0 0]) := ⟨_, rfl⟩
  have HS1 : Hid (BStep 34 Tb (setAll cur o z19.toList) w W1) := by rw [HW1.out]; exact (BStep.refl HR.out).setCells _ o
  rw [← HW1.out]
  clear HW1 c16 qU HW0
  simp only [Act.put]
  have HRF : Hid (Calls Ybaf.prog 23 #[.slice (some ⟨1, 0, none⟩) 16 16, .int .u32 (T : Int), .slice (some ad) n c, .slice (some ⟨Tb, o, none⟩) 16 16] W1.drew fun e w' =>
      (∃ ad' : Addr, ad'.block = ad.block ∧ e = .returned (.slice (some ad') (n - ssum T 16) (c - ssum T 16)) ∧ BsAt w' ad' (n - ssum T 16) dv (p + ssum T 16)) ∧ BStep 34 Tb (frow (setAll cur o z19.toList) o T dv p 16) W1.drew w') :=
    callsIn_wide.1 (readFields_in 4 (by omega) T hT nv ad n c p dv Tb o (setAll cur o z19.toList) W1.drew (HT.out.keep (HS1.out.drew.below Tb (Nat.le_refl _)) hTb) (Nat.lt_of_lt_of_le hw HS1.out.size) hd (HB.out.bstep HS1.out.drew hne) hnc (by omega) HS1.out.drew.par (by rw [setAll_size]; omega) hTb hne (Nat.lt_of_lt_of_le hab HS1.out.size))
  go_region_with (go_at_call 23; refine HRF.out.mono ?_; rintro e' w2 ⟨⟨ad', hab', rfl, hbs⟩, hst⟩; have HS2 : Hid (BStep 34 Tb (frow (setAll cur o z19.toList) o T dv p 16) w w2 ∧ BsAt w2 ad' (n - ssum T 16) dv (p + ssum T 16)) := ⟨HS1.out.drew.trans' hst, hbs⟩; clear hbs hst)
  go_upto_region 4 with (go_at_call 24; refine (traceBit12_calls _).mono ?_; rintro e' w3 ⟨rfl, rfl⟩)
  clear HRF HS1
  obtain ⟨R2, hR2⟩ : ∃ R2, frow (setAll cur o z19.toList) o T dv p 16 = R2 := ⟨_, rfl⟩
  have HP0 : Hid (PN w w2 Tb R2 Uo B0 0 (p + ssum T 16) (n - ssum T 16) ad.block T dv ad' (.slice pU 0 capU)) := by
    rw [← hR2]
    exact ⟨hab', HS2.out.2, HS2.out.1.n Uo, own_of_block (own_cut0 HO.out) (fun g hg => HS2.out.1.other g ((own_cut0 HO.out).lt g hg).2 (fun e => HU.out.1 (by rw [← hUo', hg, e]))), .inl hUo'⟩
  go_loopw [2, 8, 9] (fun b u bt wr => ∃ (i : Nat) (adk : Addr), i ≤ 10 ∧ bt = .int .u32 ((2 ^ (11 - i) : Nat) : Int) ∧ b = .slice (some adk) (n - ssum T 16 - 4 * (und T dv (p + ssum T 16) i).length) (c - ssum T 16 - 4 * (und T dv (p + ssum T 16) i).length) ∧ Hid (PN w wr Tb R2 Uo B0 i (p + ssum T 16) (n - ssum T 16) ad.block T dv adk u)) (fun _ _ bt _ => (intOf bt).toNat)
  case atStart => exact ⟨0, ad', by omega, rfl, rfl, HP0⟩
  case round =>
    clear HP0 HS2
    obtain ⟨i, adk, hi, rfl, rfl, HPN⟩ := hrel
    obtain ⟨len, hlen⟩ : ∃ len, (und T dv (p + ssum T 16) i).length = len := ⟨_, rfl⟩
    have hlm := und_mono T dv (p + ssum T 16) hi
    by_cases hlt : i < 10
    · obtain ⟨hb1, hb2, hb3⟩ := bit_facts i hlt
      have hand := and_undef T i hT hlt
      obtain ⟨B, hB⟩ : ∃ B : Int, ((2 ^ (11 - i) : Nat) : Int) = B := ⟨_, rfl⟩
      have hB1 : (0 : Int) < B := by rw [← hB]; exact Int.ofNat_lt.2 (Nat.two_pow_pos _)
      have hBn : B.toNat = 2 ^ (11 - i) := by rw [← hB]; rfl
      obtain ⟨B', hB'⟩ : ∃ B' : Int, ((2 ^ (11 - (i + 1)) : Nat) : Int) = B' := ⟨_, rfl⟩
      have hBn' : B'.toNat = 2 ^ (11 - (i + 1)) := by rw [← hB']; rfl
      have hmeas : Hid (B'.toNat < B.toNat) := by rw [hBn, hBn']; exact hb3
      rw [hB] at hand hb1 hb2 ⊢
      rw [hB'] at hb2
      clear hBn hBn' hb3
      have hB0' : (B == 0) = false := by simp; omega
      have hB2 : (B != 0) = true := by simp; omega
      have hB3 : ¬ B = 0 := by omega
      clear hB1
      by_cases hb : tbit T (12 + i) = true
      · rw [if_pos hb] at hand
        have hl1 : len + 1 ≤ (und T dv (p + ssum T 16) 10).length := by
          have h1 := und_mono T dv (p + ssum T 16) (show i + 1 ≤ 10 by omega)
          have h2 : (und T dv (p + ssum T 16) (i + 1)).length = len + 1 := by rw [und, if_pos hb, List.length_append, hlen]; rfl
          omega
        have hz1 : 4 ≤ n - ssum T 16 - 4 * len := by omega
        have hz2 : n - ssum T 16 - 4 * len ≤ c - ssum T 16 - 4 * len := by omega
        have q4 := cutL adk (n - ssum T 16 - 4 * len) (c - ssum T 16 - 4 * len) 4 4 rfl hz1 hz2
        have HU4 : Hid (Calls Ybaf.prog 14 #[.agg #[], .slice (some adk) (n - ssum T 16 - 4 * len) (c - ssum T 16 - 4 * len)] wr fun e w' => e = .returned (.int .u32 (be dv (p + ssum T 16 + 4 * len) 4)) ∧ Below wr.heap.size wr w') :=
          u32_calls adk _ _ (p + ssum T 16 + 4 * len) dv wr hz1 hd (by rw [← hlen]; exact HPN.out.bs)
        have HOW : Hid (wr.ownsRow B0 23 1 u8 len ((und T dv (p + ssum T 16) i).map (Value.int .u32))) := by rw [← hlen]; exact HPN.out.own
        have hlen10 : len ≤ 10 := by have := und_le T dv (p + ssum T 16) i; omega
        rw [hlen]
        go_wp2_with (first
          | (go_at_call 14; refine HU4.out.mono ?_; rintro e' w4 ⟨rfl, hbw⟩; have HB4 : Hid (Below wr.heap.size wr w4) := hbw; clear hbw)
          | (at_builtin; refine wpList_append_lies _ rfl (.tmp 36) (.tmp 40) 30 rfl B0 23 i23 (.int .u32 0) 1 4 Ybaf.underlying30 hi23 hz0' hz1' hz2' rfl (by decide) u8 len ((und T dv (p + ssum T 16) i).map (Value.int .u32)) rfl ((own_below HOW.out HB4.out (Nat.le_refl _)).alloc _) ⟨w4.heap.size, 0, none⟩ 1 1 [.int .u32 (be dv (p + ssum T 16 + 4 * len) 4)] rfl rfl (World.news_of_block (cs := #[.int .u32 (be dv (p + ssum T 16 + 4 * len) 4)]) (heap_alloc_new _ _)) (by simp [Value.oneCell']) (by omega) (by unfold maxLen; omega) (by omega) (by have := HB4.out.size; have := HPN.out.step.size; simp; omega) _ rfl ?_; intro g cap w5 hown hgrow hat hltg; have HG : Hid (w5.ownsRow B0 23 1 (.slice (some ⟨g, 0, none⟩) (len + 1) cap) (len + 1) ((und T dv (p + ssum T 16) i).map (Value.int .u32) ++ [.int .u32 (be dv (p + ssum T 16 + 4 * len) 4)]) ∧ (w4.alloc (.cells #[.int .u32 (be dv (p + ssum T 16 + 4 * len) 4)] 23)).grownBy w5 u8.ownBlock ∧ (u8.ownBlock = some g ∨ g = (w4.alloc (.cells #[.int .u32 (be dv (p + ssum T 16 + 4 * len) 4)] 23)).heap.size)) := ⟨hown, hgrow, hat⟩; clear hown hgrow hat hltg)
          | go_in)
        obtain ⟨g1, g2, g3⟩ := HG.out
        subst hlen
        have e1 : (und T dv (p + ssum T 16) (i + 1)).length = (und T dv (p + ssum T 16) i).length + 1 := by rw [und, if_pos hb, List.length_append]; rfl
        refine ⟨⟨i + 1, cutA adk (c - ssum T 16 - 4 * (und T dv (p + ssum T 16) i).length) 4, by omega, by rw [hB'], ?_, ?_⟩, by simpa [intOf] using hmeas.out⟩
        · rw [e1]
          congr 1 <;> omega
        · exact HPN.out.push (c' := c - ssum T 16) hb HB4.out g1 g2 g3 HU.out.1 hTs hab hne HU.out.2.1 (by omega) (by omega)
      · rw [if_neg hb] at hand
        go_wp2
        go_roundw
        case rel => exact ⟨i + 1, adk, by omega, by rw [hB'], by rw [show und T dv (p + ssum T 16) (i + 1) = und T dv (p + ssum T 16) i by rw [und, if_neg hb]; simp], HPN.out.skip (by simpa using hb)⟩
        case measure => simpa [intOf] using hmeas.out
    · obtain rfl : i = 10 := by omega
      clear hlen hlm
      have e2 : ((2 ^ (11 - 10) : Nat) : Int) = 2 := rfl
      have hUT3 : u8.ownBlock ≠ some Tb := by
        rcases HPN.out.lie with hl | ⟨g', hl, hge⟩
        · rw [hl]; exact HU.out.1
        · rw [hl]; intro e; cases e; omega
      obtain ⟨pu, cu, hu8⟩ := own_form HPN.out.own
      have HUT : Hid (u8.ownBlock ≠ some Tb) := hUT3
      clear hUT3
      subst hu8
      have hb0 : bits .and .u32 2 4092 = 0 := by decide
      have hR2s : R2.size = cur.size := by rw [← hR2, frow_size, setAll_size]
      obtain ⟨v16, hv16⟩ : ∃ v, R2[o + 16]? = some v := ⟨_, Array.getElem?_eq_getElem (by omega)⟩
      have d16 := HPN.out.step.cell hv16
      have f16 := HPN.out.step.frozen (o + 16)
      have h22 : bits .and .u32 (T : Int) 2 = if tbit T 22 = true then 2 else 0 := by
        have h := and_pow T 1 (by omega) (by omega)
        have e : ((2 ^ 1 : Nat) : Int) = 2 := rfl
        rw [e] at h
        rw [h]
        by_cases h1 : T / 2 ^ 1 % 2 = 1
        · rw [if_pos h1, if_pos (by simp [tbit] at h1 ⊢; omega)]
        · rw [if_neg h1, if_neg (by simp [tbit] at h1 ⊢; omega)]
      rw [e2]
      by_cases hb : tbit T 22 = true
      · rw [if_pos hb] at h22
        have hn4 := hsn hb
        have q1 := cutLH ad2 n2 c2 1 4 1 4 rfl rfl (by omega) (by omega)
        have q2 := cutL ad2 n2 c2 4 4 rfl hn4 hnc2
        go_upto_region 11 with fail
        obtain ⟨W5, HW5⟩ : ∃ W : World, Hid (W = wr.setCell ⟨Tb, o + 16, none⟩ (.slice pu (und T dv (p + ssum T 16) 10).length cu)) := ⟨_, rfl⟩
        have HS5 : Hid (NStep Tb (R2.setIfInBounds (o + 16) (.slice pu (und T dv (p + ssum T 16) 10).length cu)) Uo w W5) := by rw [HW5.out]; exact HPN.out.step.set (o + 16) _
        have HO5 : Hid (W5.ownsRow B0 23 1 (.slice pu (und T dv (p + ssum T 16) 10).length cu) (und T dv (p + ssum T 16) 10).length ((und T dv (p + ssum T 16) 10).map (Value.int .u32))) := by
          rw [HW5.out]; exact own_of_block HPN.out.own (fun g hg => Below.heap_setCell _ _ _ _ (fun e => HUT.out (by rw [hg, e])))
        rw [← HW5.out]
        clear HW5 d16 f16
        obtain ⟨v17, hv17⟩ : ∃ v, (R2.setIfInBounds (o + 16) (.slice pu (und T dv (p + ssum T 16) 10).length cu))[o + 17]? = some v := ⟨_, Array.getElem?_eq_getElem (by simp; omega)⟩
        obtain ⟨v18, hv18⟩ : ∃ v, (R2.setIfInBounds (o + 16) (.slice pu (und T dv (p + ssum T 16) 10).length cu))[o + 18]? = some v := ⟨_, Array.getElem?_eq_getElem (by simp; omega)⟩
        have HBB : Hid (BsAt W5.drew (cutA ad2 c2 1) 3 dv (ps + 1)) := (HB2.out.nstep HS5.out hne2 HU.out.2.2).cut c2 1 4 (by omega) (by omega) hnc2
        have hbe := be_bounds hd (ps + 1) 3
        have hbe1 : be dv (ps + 1) 3 < 4294967296 := by have := hbe.2; omega
        go_region_with (go_at_call 25; refine (readUint_calls (cutA ad2 c2 1) 3 (c2 - 1) (ps + 1) dv _ (by omega) hd (by exact HBB.out)).mono ?_; rintro e' w6 ⟨rfl, hbw⟩; have HS6 : Hid (NStep Tb (R2.setIfInBounds (o + 16) (.slice pu (und T dv (p + ssum T 16) 10).length cu)) Uo w w6 ∧ Below W5.heap.size W5 w6) := ⟨(HS5.out.below' ((Below.refl _ _).drew)).below' hbw, ((Below.refl _ _).drew).trans hbw⟩; clear hbw; have d17 := HS6.out.1.cell hv17; have d18 := HS6.out.1.cell hv18; have f17 := HS6.out.1.frozen (o + 17); have f18 := HS6.out.1.frozen (o + 18))
        all_goals go_wp2
        all_goals go_end0
        all_goals
          have hwr : IntKind.u32.wrap (be dv (ps + 1) 3) = be dv (ps + 1) 3 := wraps_u32 _ hbe.1 (by omega)
          refine ⟨⟨_, rfl⟩, .slice pu (und T dv (p + ssum T 16) 10).length cu, ?_, ?_, HPN.out.lie⟩
          · rw [hwr, nrow, if_pos hb, hR2]; exact (HS6.out.1.set (o + 17) _).set (o + 18) _
          · exact own_of_block (own_below HO5.out HS6.out.2 (Nat.le_refl _)) (fun g hg => (Below.heap_setCell _ _ _ _ (fun e => HUT.out (by rw [hg, e]))).trans (Below.heap_setCell _ _ _ _ (fun e => HUT.out (by rw [hg, e]))))
      · rw [if_neg hb] at h22
        go_wp2
        go_end0
        refine ⟨⟨_, rfl⟩, _, ?_, ?_, HPN.out.lie⟩
        · rw [nrow, if_neg hb, hR2]; exact HPN.out.step.set (o + 16) _
        · exact own_of_block HPN.out.own (fun g hg => Below.heap_setCell _ _ _ _ (fun e => HUT.out (by rw [hg, e])))
end Go.Proofs.YbulkdycwFmt
