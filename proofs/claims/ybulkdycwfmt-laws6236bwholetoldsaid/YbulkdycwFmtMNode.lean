/- The model's node: by contract. -/
import Derived.Test.YbulkdycwFmtPre
namespace Go.Proofs.YbulkdycwFmt
open Go.RowKit
open Go.Extern.Stop Go.Stop Go.Extern
set_option linter.unusedSimpArgs false
set_option linter.unusedVariables false

theorem set_same {R : Array Value} {i : Nat} {v : Value} (h : R[i]? = some v) : R.setIfInBounds i v = R := by
  apply Array.ext_getElem?
  intro j
  by_cases hj : i = j
  · subst hj
    have hlt := (Array.getElem?_eq_some_iff.1 h).1
    rw [Array.getElem?_setIfInBounds_self_of_lt hlt, h]
  · rw [Array.getElem?_setIfInBounds_ne hj]
/-- The state over the undefined bits: i of them are done. -/
structure PM (w1 wr : World) (N : Nat) (R : Array Value) (T : Nat) (dv : Nat → Int) (q i : Nat) (u : Value) : Prop where
  step : NStep (N + 1) (R.setIfInBounds 16 u) none w1 wr
  own : wr.ownsRow (N + 2) 23 1 u (und T dv q i).length ((und T dv q i).map (Value.int .u32))
theorem PM.skip {w1 wr : World} {N : Nat} {R : Array Value} {T : Nat} {dv : Nat → Int} {q i : Nat} {u : Value} (h : PM w1 wr N R T dv q i u) (e : und T dv q (i + 1) = und T dv q i) : PM w1 wr N R T dv q (i + 1) u :=
  ⟨h.step, by rw [e]; exact h.own⟩

theorem PM.stepG {w1 W2 W3 w5 : World} {N : Nat} {R : Array Value} {T : Nat} {dv : Nat → Int} {q i : Nat} {u : Value} (h : PM w1 W2 N R T dv q i u) (hs : w1.heap.size = N + 2) (hb : Below W2.heap.size W2 W3) (hg : W3.grownBy w5 u.ownBlock) : NStep (N + 1) (R.setIfInBounds 16 u) none w1 w5 := by
  have hr : u.ownBlock = none ∨ u.ownBlock = none ∨ ∃ g, u.ownBlock = some g ∧ w1.heap.size ≤ g := by
    cases hu : u.ownBlock with
    | none => exact .inl rfl
    | some g' => exact .inr (.inr ⟨g', rfl, by have := (h.own.lt g' hu).1; omega⟩)
  have hne : u.ownBlock ≠ some (N + 1) := fun e => by have := (h.own.lt _ e).1; omega
  exact (h.step.below' hb).grown hg hr hne (by omega)
theorem PM.push {w1 W2 W3 w5 : World} {N : Nat} {R : Array Value} {T : Nat} {dv : Nat → Int} {q i : Nat} {u : Value} {g cap len : Nat} {v : Int} (h : PM w1 W2 N R T dv q i u) (hs : w1.heap.size = N + 2) (hl : (und T dv q i).length = len) (e : und T dv q (i + 1) = und T dv q i ++ [v])
    (hown : w5.ownsRow (N + 2) 23 1 (.slice (some ⟨g, 0, none⟩) (len + 1) cap) (len + 1) ((und T dv q i).map (Value.int .u32) ++ [.int .u32 v])) (hb : Below W2.heap.size W2 W3) (hg : W3.grownBy w5 u.ownBlock) :
    PM w1 (w5.setCell ⟨N + 1, 16, none⟩ (.slice (some ⟨g, 0, none⟩) (len + 1) cap)) N R T dv q (i + 1) (.slice (some ⟨g, 0, none⟩) (len + 1) cap) := by
  have h2 : NStep (N + 1) (R.setIfInBounds 16 u) none w1 w5 := h.stepG hs hb hg
  have h3 := h2.set 16 (.slice (some ⟨g, 0, none⟩) (len + 1) cap)
  have e2 : (R.setIfInBounds 16 u).setIfInBounds 16 (.slice (some ⟨g, 0, none⟩) (len + 1) cap) = R.setIfInBounds 16 (.slice (some ⟨g, 0, none⟩) (len + 1) cap) := by
    apply Array.ext_getElem?
    intro j
    by_cases hj : 16 = j
    · subst hj
      by_cases hlt : 16 < R.size
      · rw [Array.getElem?_setIfInBounds_self_of_lt (by simpa using hlt), Array.getElem?_setIfInBounds_self_of_lt hlt]
      · rw [Array.getElem?_eq_none (by simp; omega), Array.getElem?_eq_none (by simp; omega)]
    · rw [Array.getElem?_setIfInBounds_ne hj, Array.getElem?_setIfInBounds_ne hj, Array.getElem?_setIfInBounds_ne hj]
  rw [e2] at h3
  refine ⟨h3, ?_⟩
  rw [e, List.length_append, hl, List.map_append]
  refine own_of_block hown (fun g' hg' => Below.heap_setCell _ _ _ _ ?_)
  have := (hown.lt g' hg').1
  show g' ≠ N + 1
  omega

theorem own_weak {w : World} {B B' n : Nat} {e : TypeId} {sz : Nat} {v : Value} {xs : List Value} (h : w.ownsRow B e sz v n xs) (hB : B' ≤ B) : w.ownsRow B' e sz v n xs := by
  refine ⟨h.1, ?_⟩
  rcases h.2 with h0 | ⟨g, cap, cur, rfl, hb, hg, r⟩
  · exact .inl h0
  · exact .inr ⟨g, cap, cur, rfl, Nat.le_trans hB hb, hg, r⟩
theorem all_set {cs : Array Value} {i : Nat} {v : Value} (h : cs.all (·.oneCell') = true) (hv : v.oneCell' = true) : (cs.setIfInBounds i v).all (·.oneCell') = true := by
  rw [Array.all_eq_true_iff_forall_mem] at h ⊢
  intro x hx
  obtain ⟨j, hj⟩ := Array.mem_iff_getElem?.1 hx
  by_cases hij : i = j
  · subst hij
    rcases Nat.lt_or_ge i cs.size with hlt | hge
    · rw [Array.getElem?_setIfInBounds_self_of_lt hlt] at hj
      cases hj
      exact hv
    · rw [Array.getElem?_eq_none (by simpa using hge)] at hj
      cases hj
  · rw [Array.getElem?_setIfInBounds_ne hij] at hj
    exact h x (Array.mem_of_getElem? hj)
theorem frow_one {cur : Array Value} (h : cur.all (·.oneCell') = true) (o T : Nat) (dv : Nat → Int) (p : Nat) : ∀ k, (frow cur o T dv p k).all (·.oneCell') = true
  | 0 => h
  | k + 1 => by
    rw [frow]
    split
    · exact all_set (frow_one h o T dv p k) (by simp [Value.oneCell'])
    · exact frow_one h o T dv p k
theorem setAll_full {cs : Array Value} {vs : Array Value} (h : cs.size = vs.size) : setAll cs 0 vs.toList = vs := by
  apply Array.ext_getElem?
  intro j
  rcases Nat.lt_or_ge j vs.size with hlt | hge
  · have h1 : vs[j]? = some vs[j] := Array.getElem?_eq_getElem hlt
    have := setAll_in vs.toList cs 0 j vs[j] (by simp) (by simp [h])
    rw [Nat.zero_add] at this
    rw [this, h1]
  · rw [Array.getElem?_eq_none hge, Array.getElem?_eq_none (by rw [setAll_size]; omega)]
/-- The end: the row is handed over. -/
theorem mnode_end {w w1 W3 : World} {N : Nat} {RF : Array Value} (hs : w1.heap.size = N + 2) (hb : Below N w w1) (hz : w1.heap[N]? = some (.cells z19 34 (0, 0))) (hst : NStep (N + 1) RF none w1 W3) (hsz : RF.size = 19) :
    W3.there N 0 RF.size ∧ (W3.setCells N 0 RF.toList).heap[N]? = some (.cells RF 34 (0, 0)) ∧ Below N w (W3.setCells N 0 RF.toList) ∧ ∀ g, g ≠ N → g < W3.heap.size → (W3.setCells N 0 RF.toList).heap[g]? = W3.heap[g]? := by
  have h1 : W3.heap[N]? = some (.cells z19 34 (0, 0)) := (hst.other N (by omega) (by omega) (by simp)).trans hz
  have h2 := (BStep.refl h1).setCells RF.toList 0
  rw [setAll_full (by rw [hsz]; rfl)] at h2
  exact ⟨there_of h1 (by rw [hsz]; exact Nat.le_refl _), h2.par, (hb.trans (hst.below N (by omega) (fun g hg => by cases hg) (by omega))).trans (h2.below N (Nat.le_refl _)), fun g hg hlt => h2.other g hlt hg⟩

set_option maxRecDepth 100000 in
set_option maxHeartbeats 2000000 in
theorem mnode_calls (T : Nat) (hT : T < 16777216) (ad : Addr) (n c p : Nat) (ad2 : Addr) (n2 c2 ps : Nat) (dv : Nat → Int) (w : World)
    (hd : Bytes dv) (hb : BsAt w ad n dv p) (hb2 : BsAt w ad2 n2 dv ps) (hnc : n ≤ c) (hnc2 : n2 ≤ c2) (hfix : 4 * units T 24 ≤ n) (hsn : tbit T 22 = true → 4 ≤ n2) (hab : ad.block < w.heap.size) (hab2 : ad2.block < w.heap.size) :
    Calls Ybaf.prog 12 #[.int .u32 (T : Int), .slice (some ad) n c, .slice (some ad2) n2 c2] w fun e w' => ∃ U' : Value,
      e = .returned (.agg (nrow z19 0 T dv p ps (.slice (some (cutA ad2 c2 4)) (n2 - 4) (c2 - 4)) U')) ∧ w'.ownsRow w.heap.size 23 1 U' (und T dv (p + ssum T 16) 10).length ((und T dv (p + ssum T 16) 10).map (Value.int .u32)) ∧ Below w.heap.size w w' := by
  have hfe := fixed_eq T dv (p + ssum T 16)
  have hu48 := units_le T 24
  obtain ⟨i23, hi23, hz0', hz1', hz2'⟩ := info_parts info23
  have HB : Hid (BsAt w ad n dv p) := hb
  have HB2 : Hid (BsAt w ad2 n2 dv ps) := hb2
  obtain ⟨N, hN⟩ : ∃ N, w.heap.size = N := ⟨_, rfl⟩
  have HN : Hid (w.heap.size = N) := hN
  rw [hN] at hab hab2
  obtain ⟨w1, HW1⟩ : ∃ w1, Hid (w1 = (w.alloc (.cells z19 34)).alloc (.cells z19 34)) := ⟨_, rfl⟩
  have h1s : w1.heap.size = N + 2 := by rw [HW1.out, ← hN]; simp
  have H1S : Hid (w1.heap.size = N + 2) := h1s
  have HB1 : Hid (Below N w w1) := by rw [HW1.out]; exact ((Below.refl _ _).alloc (by omega) _).alloc (by simp; omega) _
  have HN1 : Hid (w1.heap[N + 1]? = some (.cells z19 34 (0, 0)) ∧ w1.heap[N]? = some (.cells z19 34 (0, 0))) := by
    rw [HW1.out]
    refine ⟨new_at (by simp; omega), ?_⟩
    rw [Below.heap_alloc _ _ _ (by simp; omega)]
    exact new_at hN.symm
  have HS0 : Hid (BStep 34 (N + 1) z19 w1 w1) := BStep.refl HN1.out.1
  clear hb hb2 hN h1s
  go_enter Ybaf.func12, Ybaf.ntmps12
  go_wp2_with fail
  rw [← HW1.out, HN.out]
  go_loopw [8, 9] (fun off i wr => ∃ k : Nat, k ≤ 16 ∧ i = .int .i64 k ∧ off = .int .i64 (ssum T k) ∧ Hid (BStep 34 (N + 1) (frow z19 0 T dv p k) w1 wr)) (fun _ i _ => 16 - (intOf i).toNat)
  case atStart => exact ⟨0, by omega, rfl, rfl, HS0⟩
  case round =>
    obtain ⟨k, hk, rfl, rfl, HBS⟩ := hrel
    by_cases hlt : k < 16
    · have hlt' : (k : Int) < 16 := by omega
      have hfl := fbit_le k
      have hq := shr_and T (fbit k) hT (by omega)
      have hs1 := ssum_mono T (show k + 1 ≤ 16 by omega)
      rw [ssum] at hs1
      go_upto_region 7 with (go_at_call 19; refine (spec_calls k _ hlt).mono ?_; rintro e' w' ⟨rfl, rfl⟩)
      obtain ⟨vk, hvk⟩ : ∃ v, (frow z19 0 T dv p k)[k]? = some v := ⟨_, Array.getElem?_eq_getElem (by rw [frow_size]; show k < 19; omega)⟩
      have dk := HBS.out.cell hvk
      have fk := HBS.out.frozen k
      have hsz8 := fsz_le k
      by_cases hbt : tbit T (fbit k) = true
      · have hq1 : T / 2 ^ (23 - fbit k) % 2 = 1 := by simpa [tbit] using hbt
        rw [hq1] at hq
        rw [if_pos hbt] at hs1
        have hss : ssum T (k + 1) = ssum T k + fsz k := by rw [ssum, if_pos hbt]
        have q1 := cutLH ad n c (ssum T k) (ssum T k + fsz k) (ssum T k) ((ssum T k : Nat) + (fsz k : Nat)) rfl (by simp) (by omega) (by omega)
        rw [Nat.add_sub_cancel_left] at q1
        have HBE : Hid (Calls Ybaf.prog 20 #[.slice (some (cutA ad c (ssum T k))) (fsz k) (c - ssum T k)] wr fun e w' => e = .returned (.int .u64 (be dv (p + ssum T k) (fsz k))) ∧ wr = w') := by
          have hbw := ((HB.out.keep HB1.out (by rw [HN.out]; exact Nat.le_refl _)).bstep HBS.out (by omega)).cut c (ssum T k) (ssum T k + fsz k) (by omega) (by omega) hnc
          rw [Nat.add_sub_cancel_left] at hbw
          exact be_calls _ _ _ _ dv wr hsz8 hd hbw
        have HSS : Hid (ssum T (k + 1) = ssum T k + fsz k) := hss
        clear hss hq1
        go_wp2_with (go_at_call 20; refine HBE.out.mono ?_; rintro e' w' ⟨rfl, rfl⟩)
        refine ⟨⟨k + 1, by omega, by go_num, by rw [HSS.out]; simp, ?_⟩, by simp [intOf]; omega⟩
        rw [frow, if_pos hbt, Nat.zero_add]
        exact HBS.out.set k _
      · have hq1 : T / 2 ^ (23 - fbit k) % 2 = 0 := by
          have : ¬ T / 2 ^ (23 - fbit k) % 2 = 1 := by simpa [tbit] using hbt
          omega
        rw [hq1] at hq
        have HSS : Hid (ssum T (k + 1) = ssum T k) := by show _ = _; rw [ssum, if_neg hbt, Nat.add_zero]
        clear hq1
        go_wp2_with fail
        go_roundw
        case rel => exact ⟨k + 1, by omega, by go_num, by rw [HSS.out], by rw [frow, if_neg hbt]; exact HBS⟩
        case measure => simp [intOf]; omega
    · obtain rfl : k = 16 := by omega
      go_wp2_with fail
      obtain ⟨R, hR⟩ : ∃ R, frow z19 0 T dv p 16 = R := ⟨_, rfl⟩
      have HR : Hid (frow z19 0 T dv p 16 = R) := hR
      have hRs : R.size = 19 := by rw [← hR, frow_size]; rfl
      have hR16 : R[16]? = some (.slice none 0 0) := by rw [← hR, frow_out z19 0 T dv p 16 16 (Nat.le_refl _) (by omega)]; rfl
      have HP0 : Hid (PM w1 wr N R T dv (p + ssum T 16) 0 (.slice none 0 0)) := by
        refine ⟨?_, World.ownsRow_nil _ _ _ _⟩
        have e : R.setIfInBounds 16 (.slice none 0 0) = R := set_same hR16
        rw [e, ← hR]
        exact HBS.out.n none
      clear hR HBS HS0
      go_loopg [8, 12] 10 (fun kk off i wr => ∃ (t : Nat) (u : Value), kk = 22 - t ∧ 12 ≤ t ∧ t ≤ 22 ∧ i = .int .i64 t ∧ off = .int .i64 ((ssum T 16 + 4 * (und T dv (p + ssum T 16) (t - 12)).length : Nat) : Int) ∧ Hid (PM w1 wr N R T dv (p + ssum T 16) (t - 12) u))
      case atStart => exact ⟨12, _, rfl, by omega, by omega, rfl, by simp [und], HP0⟩
      case round =>
        clear HP0
        obtain ⟨t, u, rfl, ht12, ht22, rfl, rfl, HPM⟩ := hrel
        have hlen10 := und_le T dv (p + ssum T 16) (t - 12)
        have hlm := und_mono T dv (p + ssum T 16) (show t - 12 ≤ 10 by omega)
        obtain ⟨len, hlen⟩ : ∃ len, (und T dv (p + ssum T 16) (t - 12)).length = len := ⟨_, rfl⟩
        have HLEN : Hid ((und T dv (p + ssum T 16) (t - 12)).length = len) := hlen
        rw [hlen] at hlen10 hlm ⊢
        clear hlen
        by_cases htl : t < 22
        · have htl' : (t : Int) ≤ 21 := by omega
          have hq := shr_and T t hT (by omega)
          have d16 := HPM.out.step.cell (i := 16) (v := u) (by simp [hRs])
          have f16 := HPM.out.step.frozen 16
          by_cases hbt : tbit T t = true
          · have hq1 : T / 2 ^ (23 - t) % 2 = 1 := by simpa [tbit] using hbt
            rw [hq1] at hq
            clear hq1
            have hun : und T dv (p + ssum T 16) (t - 12 + 1) = und T dv (p + ssum T 16) (t - 12) ++ [be dv (p + ssum T 16 + 4 * len) 4] := by rw [und, if_pos (by rw [show 12 + (t - 12) = t by omega]; exact hbt), HLEN.out]
            have hlm1 := und_mono T dv (p + ssum T 16) (show t - 12 + 1 ≤ 10 by omega)
            rw [hun, List.length_append, HLEN.out] at hlm1
            have hlm2 : len + 1 ≤ (und T dv (p + ssum T 16) 10).length := hlm1
            clear hlm1
            have HUN : Hid (_ = _) := hun
            clear hun
            obtain ⟨S, hS⟩ : ∃ S, ssum T 16 + 4 * len = S := ⟨_, rfl⟩
            have hSb : S + 4 ≤ n := by omega
            have q1 := cutLH ad n c S (S + 4) S ((S : Nat) + 4) rfl (by simp) (by omega) (by omega)
            rw [Nat.add_sub_cancel_left] at q1
            have hSb2 : S ≤ 1000 := by omega
            rw [hS]
            go_upto_region 14 with fail
            have HPM2 : Hid (PM w1 wr.drew N R T dv (p + ssum T 16) (t - 12) u) := ⟨HPM.out.step.below' (Below.refl _ _).drew, own_below HPM.out.own (Below.refl _ _).drew (Nat.le_refl _)⟩
            have HBE : Hid (Calls Ybaf.prog 20 #[.slice (some (cutA ad c S)) 4 (c - S)] wr.drew fun e w' => e = .returned (.int .u64 (be dv (p + S) 4)) ∧ wr.drew = w') := by
              have hbw := ((HB.out.keep HB1.out (by rw [HN.out]; exact Nat.le_refl _)).nstep HPM2.out.step (by omega) (by simp)).cut c S (S + 4) (by omega) (by omega) hnc
              rw [Nat.add_sub_cancel_left] at hbw
              exact be_calls _ _ _ _ dv wr.drew (by omega) hd hbw
            have hwr : IntKind.i64.wrap ((S : Int) + 4) = (S : Int) + 4 := by rw [IntKind.wrap_i64]; omega
            have hbb := be_bounds hd (p + S) 4
            have hwr2 : IntKind.u32.wrap (be dv (p + S) 4) = be dv (p + S) 4 := wraps_u32 _ hbb.1 hbb.2
            have hpS : p + ssum T 16 + 4 * len = p + S := by omega
            have HPS2 : Hid (p + ssum T 16 + 4 * len = p + S ∧ ssum T 16 + 4 * len = S) := ⟨hpS, hS⟩
            have HOW : Hid (wr.ownsRow (N + 2) 23 1 u len ((und T dv (p + ssum T 16) (t - 12)).map (Value.int .u32))) := by rw [← HLEN.out]; exact HPM.out.own
            have HSZ : Hid (N + 2 ≤ wr.heap.size) := by rw [← H1S.out]; exact HPM.out.step.size
            clear hpS hS
            have f16' : ∀ w5 : World, NStep (N + 1) (R.setIfInBounds 16 u) none w1 w5 → w5.frozen? ⟨N + 1, 16, none⟩ = false ∧ w5.cell? ⟨N + 1, 16, none⟩ = some u := fun w5 h => ⟨h.frozen 16, h.cell (by simp [hRs])⟩
            have HF16 : Hid (_) := f16'
            clear f16' f16
            have hlt16 : N + 1 < wr.heap.size := by have := HSZ.out; omega
            have d16a : (wr.alloc (.cells #[.int .u32 (be dv (p + S) 4)] 23)).cell? ⟨N + 1, 16, none⟩ = some u := (((Below.refl wr.heap.size wr).alloc (Nat.le_refl _) _).cell (p := ⟨N + 1, 16, none⟩) hlt16).trans d16
            go_region_law (first
              | (refine step_append_lies _ rfl (.tmp 54) (.tmp 62) 30 rfl (N + 2) 23 i23 (.int .u32 0) 1 4 Ybaf.underlying30 hi23 hz0' hz1' hz2' rfl (by decide) u len ((und T dv (p + ssum T 16) (t - 12)).map (Value.int .u32)) rfl (own_drew (HOW.out.alloc _)) ⟨wr.heap.size, 0, none⟩ 1 1 [.int .u32 (be dv (p + S) 4)] rfl rfl (World.news_of_block (cs := #[.int .u32 (be dv (p + S) 4)]) (heap_alloc_new _ _)) (by simp [Value.oneCell']) (by omega) (by unfold maxLen; omega) (by omega) (by have := HSZ.out; simp; omega) _ rfl ?_; intro g cap w5 hown hgrow hat hltg; have HG : Hid (w5.ownsRow (N + 2) 23 1 (.slice (some ⟨g, 0, none⟩) (len + 1) cap) (len + 1) ((und T dv (p + ssum T 16) (t - 12)).map (Value.int .u32) ++ [.int .u32 (be dv (p + S) 4)]) ∧ ((wr.alloc (.cells #[.int .u32 (be dv (p + S) 4)] 23)).drew).grownBy w5 u.ownBlock) := ⟨hown, hgrow⟩; have hst5 := PM.stepG HPM.out H1S.out (((Below.refl _ _).alloc (Nat.le_refl _) _).drew) hgrow; obtain ⟨f16, d16'⟩ := HF16.out w5 hst5; clear hst5 hown hgrow hat hltg)
              | (go_simp; go_at_call 20; refine HBE.out.mono ?_; rintro e' w' ⟨rfl, rfl⟩))
            all_goals go_wp2_with fail
            all_goals
            go_roundg (22 - (t + 1))
            case measure => omega
            case rel =>
            refine ⟨t + 1, .slice (some ⟨g, 0, none⟩) (len + 1) cap, rfl, by omega, by omega, by go_num, ?_, ?_⟩
            · rw [show t + 1 - 12 = t - 12 + 1 by omega, HUN.out, List.length_append, HLEN.out]
              have := HPS2.out.2
              simp
              omega
            · rw [show t + 1 - 12 = t - 12 + 1 by omega]
              exact HPM.out.push H1S.out HLEN.out (by rw [HUN.out, HPS2.out.1]) HG.out.1 (((Below.refl _ _).alloc (Nat.le_refl _) _).drew) HG.out.2
          · have hq1 : T / 2 ^ (23 - t) % 2 = 0 := by
              have : ¬ T / 2 ^ (23 - t) % 2 = 1 := by simpa [tbit] using hbt
              omega
            rw [hq1] at hq
            clear hq1
            have hun : und T dv (p + ssum T 16) (t - 12 + 1) = und T dv (p + ssum T 16) (t - 12) := by rw [und, if_neg (by rw [show 12 + (t - 12) = t by omega]; exact hbt), List.append_nil]
            have HUN : Hid (_ = _) := hun
            clear hun
            go_wp2_with fail
            go_roundg (22 - (t + 1))
            case rel =>
              refine ⟨t + 1, u, rfl, by omega, by omega, by go_num, ?_, ?_⟩
              · rw [show t + 1 - 12 = t - 12 + 1 by omega, HUN.out, HLEN.out]
              · rw [show t + 1 - 12 = t - 12 + 1 by omega]
                exact HPM.out.skip HUN.out
            case measure => omega
        · obtain rfl : t = 22 := by omega
          have h22 := and_two T hT
          rw [show 22 - 12 = 10 by omega] at HPM
          have HRN : Hid (∀ U', nrow z19 0 T dv p ps (.slice (some (cutA ad2 c2 4)) (n2 - 4) (c2 - 4)) U' = if tbit T 22 = true then ((R.setIfInBounds 16 U').setIfInBounds 17 (.int .u32 (be dv (ps + 1) 3))).setIfInBounds 18 (.slice (some (cutA ad2 c2 4)) (n2 - 4) (c2 - 4)) else R.setIfInBounds 16 U') := fun U' => by rw [← HR.out]; rfl
          clear HLEN hlm hlen10
          go_upto_region 16 with fail
          by_cases hb : tbit T 22 = true
          · rw [if_pos hb] at h22
            have hn4 := hsn hb
            have q1 := cutLH ad2 n2 c2 1 4 1 4 rfl rfl (by omega) (by omega)
            have q2 := cutL ad2 n2 c2 4 4 rfl hn4 hnc2
            go_upto_region 17 with fail
            refine wp_tail 7 (by kernel_rfl) (by kernel_rfl) fun W2 hW2 => ?_
            have hb2 : Below wr.heap.size wr W2 := by rw [hW2]; exact (Below.refl _ _).drew
            have HPM2 : Hid (PM w1 W2 N R T dv (p + ssum T 16) 10 u) := ⟨HPM.out.step.below' hb2, own_below HPM.out.own hb2 (Nat.le_refl _)⟩
            clear hb2 hW2 HPM
            have HBE : Hid (Calls Ybaf.prog 20 #[.slice (some (cutA ad2 c2 1)) 3 (c2 - 1)] W2 fun e w' => e = .returned (.int .u64 (be dv (ps + 1) 3)) ∧ W2 = w') := by
              have hbw := ((HB2.out.keep HB1.out (by rw [HN.out]; exact Nat.le_refl _)).nstep HPM2.out.step (by omega) (by simp)).cut c2 1 4 (by omega) (by omega) hnc2
              exact be_calls _ _ _ _ dv W2 (by omega) hd hbw
            have hbb := be_bounds hd (ps + 1) 3
            have hwr2 : IntKind.u32.wrap (be dv (ps + 1) 3) = be dv (ps + 1) 3 := wraps_u32 _ hbb.1 (by have := hbb.2; omega)
            simp only [List.take_succ_cons, List.take_zero, List.drop_succ_cons, List.drop_zero]
            iterate 2 still_step
            still_call (HBE.out.mono fun e' w' h => ⟨h.1, h.2.symm⟩)
            repeat still_step
            refine wpStill_nil ?_
            obtain ⟨v17, hv17⟩ : ∃ v, (R.setIfInBounds 16 u)[17]? = some v := ⟨_, Array.getElem?_eq_getElem (by simp; omega)⟩
            obtain ⟨v18, hv18⟩ : ∃ v, (R.setIfInBounds 16 u)[18]? = some v := ⟨_, Array.getElem?_eq_getElem (by simp; omega)⟩
            have d17 := HPM2.out.step.cell hv17
            have d18 := HPM2.out.step.cell hv18
            have f17 := HPM2.out.step.frozen 17
            have f18 := HPM2.out.step.frozen 18
            clear hv17 hv18
            go_upto_region 18 with fail
            obtain ⟨W3, HW3⟩ : ∃ W3 : World, Hid (W3 = (W2.setCell ⟨N + 1, 17, none⟩ (.int .u32 (be dv (ps + 1) 3))).setCell ⟨N + 1, 18, none⟩ (.slice (some (cutA ad2 c2 4)) (n2 - 4) (c2 - 4))) := ⟨_, rfl⟩
            have hst3 : NStep (N + 1) (((R.setIfInBounds 16 u).setIfInBounds 17 (.int .u32 (be dv (ps + 1) 3))).setIfInBounds 18 (.slice (some (cutA ad2 c2 4)) (n2 - 4) (c2 - 4))) none w1 W3 := by rw [HW3.out]; exact (HPM2.out.step.set 17 _).set 18 _
            have how3 : W3.ownsRow (N + 2) 23 1 u (und T dv (p + ssum T 16) 10).length ((und T dv (p + ssum T 16) 10).map (Value.int .u32)) := by
              rw [HW3.out]
              refine own_of_block HPM2.out.own (fun g hg => ?_)
              have := (HPM2.out.own.lt g hg).1
              rw [Below.heap_setCell _ _ _ _ (show g ≠ N + 1 by omega), Below.heap_setCell _ _ _ _ (show g ≠ N + 1 by omega)]
            rw [← HW3.out]
            clear HW3 d17 d18 f17 f18
            have hrf := HRN.out u
            rw [if_pos hb] at hrf
            have hone : (((R.setIfInBounds 16 u).setIfInBounds 17 (.int .u32 (be dv (ps + 1) 3))).setIfInBounds 18 (.slice (some (cutA ad2 c2 4)) (n2 - 4) (c2 - 4))).all (·.oneCell') = true := all_set (all_set (all_set (by rw [← HR.out]; exact frow_one z19_one _ _ _ _ _) (by obtain ⟨pu, cu, rfl⟩ := own_form how3; simp [Value.oneCell'])) (by simp [Value.oneCell'])) (by simp [Value.oneCell'])
            have hsz3 : (((R.setIfInBounds 16 u).setIfInBounds 17 (.int .u32 (be dv (ps + 1) 3))).setIfInBounds 18 (.slice (some (cutA ad2 c2 4)) (n2 - 4) (c2 - 4))).size = 19 := by simp [hRs]
            rw [← hrf] at hst3 hone hsz3
            obtain ⟨RF, hRF⟩ : ∃ RF, nrow z19 0 T dv p ps (.slice (some (cutA ad2 c2 4)) (n2 - 4) (c2 - 4)) u = RF := ⟨_, rfl⟩
            rw [hRF] at hst3 hone hsz3
            obtain ⟨e1, e2, e3, e4⟩ := mnode_end H1S.out HB1.out HN1.out.2 hst3 hsz3
            have hinf : (Ybaf.prog.info? 34).map (·.size) = some RF.size := by rw [hsz3]; exact info34
            have HE : Hid (nrow z19 0 T dv p ps (.slice (some (cutA ad2 c2 4)) (n2 - 4) (c2 - 4)) u = RF ∧ W3.heap[N + 1]? = some (.cells RF 34 (0, 0)) ∧ W3.there N 0 RF.size ∧ (W3.setCells N 0 RF.toList).heap[N]? = some (.cells RF 34 (0, 0)) ∧ Below N w (W3.setCells N 0 RF.toList) ∧ (W3.setCells N 0 RF.toList).ownsRow N 23 1 u (und T dv (p + ssum T 16) 10).length ((und T dv (p + ssum T 16) 10).map (Value.int .u32))) := by
              refine ⟨hRF, hst3.par, e1, e2, e3, ?_⟩
              have h5 := own_of_block how3 (fun g hg => e4 g (by have := (how3.lt g hg).1; omega) (how3.lt g hg).2)
              exact own_weak h5 (by omega)
            clear hst3 hsz3 e1 e2 e3 e4 how3 hrf hRF
            go_wp2_with (first
              | refine wpList_load_row rfl 34 (.tmp 7) rfl (N + 1) rfl 34 RF (0, 0) _ HE.out.2.1 Ybaf.underlying34 rfl hinf ?_
              | refine wpList_store_mid rfl 34 (.tmp 6) (.tmp 78) rfl N 0 RF rfl rfl HE.out.2.2.1 hinf hone ?_)
            refine bodyPost_ret (results_cell_row (p := 6) (ty := 34) (by kernel_rfl) _ _ N 34 RF (0, 0) _ rfl HE.out.2.2.2.1 Ybaf.underlying34 rfl hinf) rfl ?_
            exact ⟨u, by rw [HE.out.1], by rw [HN.out]; exact HE.out.2.2.2.2.2, by rw [HN.out]; exact HE.out.2.2.2.2.1⟩
          · rw [if_neg hb] at h22
            go_upto_region 18 with fail
            obtain ⟨W3, HW3⟩ : ∃ W3 : World, Hid (W3 = wr) := ⟨_, rfl⟩
            have hst3 : NStep (N + 1) (R.setIfInBounds 16 u) none w1 W3 := by rw [HW3.out]; exact HPM.out.step
            have how3 : W3.ownsRow (N + 2) 23 1 u (und T dv (p + ssum T 16) 10).length ((und T dv (p + ssum T 16) 10).map (Value.int .u32)) := by rw [HW3.out]; exact HPM.out.own
            rw [← HW3.out]
            clear HW3
            have hrf := HRN.out u
            rw [if_neg hb] at hrf
            have hone : (R.setIfInBounds 16 u).all (·.oneCell') = true := all_set (by rw [← HR.out]; exact frow_one z19_one _ _ _ _ _) (by obtain ⟨pu, cu, rfl⟩ := own_form how3; simp [Value.oneCell'])
            have hsz3 : (R.setIfInBounds 16 u).size = 19 := by simp [hRs]
            rw [← hrf] at hst3 hone hsz3
            obtain ⟨RF, hRF⟩ : ∃ RF, nrow z19 0 T dv p ps (.slice (some (cutA ad2 c2 4)) (n2 - 4) (c2 - 4)) u = RF := ⟨_, rfl⟩
            rw [hRF] at hst3 hone hsz3
            obtain ⟨e1, e2, e3, e4⟩ := mnode_end H1S.out HB1.out HN1.out.2 hst3 hsz3
            have hinf : (Ybaf.prog.info? 34).map (·.size) = some RF.size := by rw [hsz3]; exact info34
            have HE : Hid (nrow z19 0 T dv p ps (.slice (some (cutA ad2 c2 4)) (n2 - 4) (c2 - 4)) u = RF ∧ W3.heap[N + 1]? = some (.cells RF 34 (0, 0)) ∧ W3.there N 0 RF.size ∧ (W3.setCells N 0 RF.toList).heap[N]? = some (.cells RF 34 (0, 0)) ∧ Below N w (W3.setCells N 0 RF.toList) ∧ (W3.setCells N 0 RF.toList).ownsRow N 23 1 u (und T dv (p + ssum T 16) 10).length ((und T dv (p + ssum T 16) 10).map (Value.int .u32))) := by
              refine ⟨hRF, hst3.par, e1, e2, e3, ?_⟩
              have h5 := own_of_block how3 (fun g hg => e4 g (by have := (how3.lt g hg).1; omega) (how3.lt g hg).2)
              exact own_weak h5 (by omega)
            clear hst3 hsz3 e1 e2 e3 e4 how3 hrf hRF
            go_wp2_with (first
              | refine wpList_load_row rfl 34 (.tmp 7) rfl (N + 1) rfl 34 RF (0, 0) _ HE.out.2.1 Ybaf.underlying34 rfl hinf ?_
              | refine wpList_store_mid rfl 34 (.tmp 6) (.tmp 78) rfl N 0 RF rfl rfl HE.out.2.2.1 hinf hone ?_)
            refine bodyPost_ret (results_cell_row (p := 6) (ty := 34) (by kernel_rfl) _ _ N 34 RF (0, 0) _ rfl HE.out.2.2.2.1 Ybaf.underlying34 rfl hinf) rfl ?_
            exact ⟨u, by rw [HE.out.1], by rw [HN.out]; exact HE.out.2.2.2.2.2, by rw [HN.out]; exact HE.out.2.2.2.2.1⟩
end Go.Proofs.YbulkdycwFmt
