/- The comparison: by contract. -/
import Derived.Test.YbulkdycwFmtMState
import Derived.Laws.StructEq
namespace Go.Proofs.YbulkdycwFmt
open Go.RowKit
open Go.Extern.Stop Go.Stop Go.Extern
set_option linter.unusedSimpArgs false
set_option linter.unusedVariables false

theorem und_cell {w : World} {B : Nat} {p : Option Addr} {c t : Nat} {us : List Int} {uv : Int} (h : w.ownsRow B 23 1 (.slice p us.length c) us.length (us.map (Value.int .u32))) (hu : us[t]? = some uv) : ∃ g, p = some ⟨g, 0, none⟩ ∧ w.cell? ⟨g, t, none⟩ = some (.int .u32 uv) := by
  have hlt := (List.getElem?_eq_some_iff.1 hu).1
  rcases h.2 with ⟨h0, h0'⟩ | ⟨g, cap, cur, hv, _, hg, _, _, _, ht⟩
  · omega
  · cases hv
    refine ⟨g, rfl, cell_of hg ?_⟩
    have h1 : (us.map (Value.int .u32))[t]? = some (.int .u32 uv) := by rw [List.getElem?_map, hu]; rfl
    rw [← ht, List.getElem?_take] at h1
    split at h1
    · simpa using h1
    · cases h1
theorem byteseq_q (a a' : Option Addr) (n c c' p : Nat) (dv : Nat → Int) (w : World) (k m : Nat) (hn : n ≤ 1073741824) (h : OBs w a n dv p) (h' : OBs w a' n dv p) :
    Calls Ybaf.prog 6 #[.slice a n c, .slice a' n c'] (w.drewN (k + m)) fun e w' => e = .returned (.bool true) ∧ ∃ q, w' = w.drewN (k + q) :=
  (byteseq_calls a a' n c c' p p dv dv (w.drewN (k + m)) hn h h' (fun _ _ => rfl)).mono fun _ _ ⟨h1, q, h2⟩ => ⟨h1, m + q, by rw [h2, World.drewN_drewN, Nat.add_assoc]⟩
theorem need_le {T : Nat} {dv : Nat → Int} (hd : Bytes dv) (p : Nat) : need T dv p - 4 * units T 24 - 4 ≤ 1024 := by
  have h := hd (p + 4 * units T 24)
  unfold need
  split <;> omega

set_option maxHeartbeats 2000000 in
theorem eq29 (a0 a1 a2 a3 a4 a5 a6 a7 a8 a9 a10 a11 a12 a13 a14 a15 : Int) (w : World) : (Op.equalIn 10000 29 (.agg #[.int .u64 a0, .int .u64 a1, .int .u64 a2, .int .u64 a3, .int .u64 a4, .int .u64 a5, .int .u64 a6, .int .u64 a7, .int .u64 a8, .int .u64 a9, .int .u64 a10, .int .u64 a11, .int .u64 a12, .int .u64 a13, .int .u64 a14, .int .u64 a15]) (.agg #[.int .u64 a0, .int .u64 a1, .int .u64 a2, .int .u64 a3, .int .u64 a4, .int .u64 a5, .int .u64 a6, .int .u64 a7, .int .u64 a8, .int .u64 a9, .int .u64 a10, .int .u64 a11, .int .u64 a12, .int .u64 a13, .int .u64 a14, .int .u64 a15])).run Ybaf.prog w = .ok true w := by
  have u3 := Ybaf.underlying28
  have a3 := Ybaf.isAgg28
  have z3 := Ybaf.sizeOf28
  rw [show (10000 : Nat) = 9999 + 1 from rfl, Op.equalIn]
  simp only [Sem.run_bind, run_underlying Ybaf.underlying29, Result.andThen_ok]
  simp only [Std.Legacy.Range.forIn_eq_forIn_range', Std.Legacy.Range.size, Nat.sub_zero, Nat.add_sub_cancel, Nat.div_one, List.range'_succ, List.range'_zero, List.forIn_cons, List.forIn_nil]
  go_simp
theorem guard29 : Ybaf.prog.eqGuardType Ybaf.prog.depth 29 = false := by kernel_rfl

set_option maxRecDepth 100000 in
set_option maxHeartbeats 4000000 in
theorem eq_calls (w : World) (tb tb2 Tb C B0 B : Nat) (cur : Array Value) (V : Value) (xs : List Value) (T : Nat) (dv : Nat → Int) (ps : List Nat) (ns nl fl rl ty : Int) (hd : Bytes dv) (hps : ps.length ≤ 1000000)
    (h1 : w.heap[tb]? = some (.cells (trc ns nl fl rl ty (.slice (some ⟨Tb, 0, none⟩) ps.length C)) 39 (0, 0))) (h2 : w.heap[tb2]? = some (.cells (trc ns nl fl rl ty V) 39 (0, 0))) (hR : RN w B0 tb Tb C cur T dv ps) (hM : MN w B V xs T dv ps) :
    Calls Ybaf.prog 8 #[.pointer (some ⟨tb, 0, none⟩), .pointer (some ⟨tb2, 0, none⟩)] w fun e w' => e = .returned (.bool true) ∧ ∃ q, w' = w.drewN q := by
  obtain ⟨pV, cV, rfl⟩ := own_form hM.own
  have HR : Hid (RN w B0 tb Tb C cur T dv ps) := hR
  have HM : Hid (MN w B (.slice pV ps.length cV) xs T dv ps) := hM
  have a0 : w.cell? ⟨tb, 0, none⟩ = some (.int .u16 ns) := cell_of h1 rfl
  have a1 : w.cell? ⟨tb, 1, none⟩ = some (.int .u8 nl) := cell_of h1 rfl
  have a2 : w.cell? ⟨tb, 2, none⟩ = some (.int .u8 fl) := cell_of h1 rfl
  have a3 : w.cell? ⟨tb, 3, none⟩ = some (.int .u8 rl) := cell_of h1 rfl
  have a4 : w.cell? ⟨tb, 4, none⟩ = some (.int .u32 ty) := cell_of h1 rfl
  have a5 : w.cell? ⟨tb, 5, none⟩ = some (.slice (some ⟨Tb, 0, none⟩) ps.length C) := cell_of h1 rfl
  have b0 : w.cell? ⟨tb2, 0, none⟩ = some (.int .u16 ns) := cell_of h2 rfl
  have b1 : w.cell? ⟨tb2, 1, none⟩ = some (.int .u8 nl) := cell_of h2 rfl
  have b2 : w.cell? ⟨tb2, 2, none⟩ = some (.int .u8 fl) := cell_of h2 rfl
  have b3 : w.cell? ⟨tb2, 3, none⟩ = some (.int .u8 rl) := cell_of h2 rfl
  have b4 : w.cell? ⟨tb2, 4, none⟩ = some (.int .u32 ty) := cell_of h2 rfl
  have b5 : w.cell? ⟨tb2, 5, none⟩ = some (.slice pV ps.length cV) := cell_of h2 rfl
  have e0 : (ns != ns) = false := by simp
  have e1 : (nl != nl) = false := by simp
  have e2 : (fl != fl) = false := by simp
  have e3 : (rl != rl) = false := by simp
  have e4 : (ty != ty) = false := by simp
  have e5 : ((ps.length : Int) != (ps.length : Int)) = false := by simp
  clear hR hM h1 h2
  go_enter Ybaf.func8, Ybaf.ntmps8
  go_upto_region 1 with fail
  go_quiet (fail)
  go_upto_region 3 with fail
  go_quiet (fail)
  clear a0 a1 a2 a3 a4 b0 b1 b2 b3 b4 e0 e1 e2 e3 e4 e5
  go_upto_block 1 with fail
  go_wp2_with fail
  go_loopg [5, 6, 7, 8] ps.length (fun k i x y z wr => ∃ j : Nat, k = ps.length - j ∧ j ≤ ps.length ∧ i = .int .i64 j ∧ ∃ q, wr = w.drewN q)
  case atStart => exact ⟨0, rfl, by omega, rfl, _, World.drewN_drewN _ _ _⟩
  case round =>
    obtain ⟨j, rfl, hj, rfl, q, rfl⟩ := hrel
    by_cases hjl : j < ps.length
    · have hjl' : (j : Int) < (ps.length : Int) := by omega
      obtain ⟨p, hp⟩ : ∃ p, ps[j]? = some p := ⟨_, List.getElem?_eq_getElem hjl⟩
      have hA := HR.out.nodes j p hp
      have hB := HM.out.nodes j p hp
      obtain ⟨g, cur2, hg, rfl, hxs⟩ : ∃ g cur2, w.heap[g]? = some (.cells cur2 34 (0, 0)) ∧ pV = some ⟨g, 0, none⟩ ∧ ∀ i v, xs[i]? = some v → cur2[i]? = some v := by
        rcases HM.out.own.2 with ⟨h0, h0'⟩ | ⟨g, cap, cur2, hv, _, hg, _, _, _, ht⟩
        · omega
        · cases hv
          refine ⟨g, cur2, hg, rfl, fun i v hi => ?_⟩
          rw [← ht, List.getElem?_take] at hi
          split at hi
          · simpa using hi
          · cases hi
      have cA : ∀ i v, cur[j * 19 + i]? = some v → w.cell? ⟨Tb, j * 19 + i, none⟩ = some v := fun i v h => cell_of HR.out.row h
      have cB : ∀ i v, xs.toArray[j * 19 + i]? = some v → w.cell? ⟨g, j * 19 + i, none⟩ = some v := fun i v h => cell_of hg (hxs _ _ (by simpa using h))
      have fA : ∀ i, i < 16 → w.cell? ⟨Tb, j * 19 + i, none⟩ = some (.int .u64 (fval T dv p i)) := fun i hi => cA i _ (hA.fields i hi)
      have fB : ∀ i, i < 16 → w.cell? ⟨g, j * 19 + i, none⟩ = some (.int .u64 (fval T dv p i)) := fun i hi => cB i _ (hB.fields i hi)
      obtain ⟨U, hU, hUo⟩ := hA.und
      obtain ⟨U2, hU2, hUo2⟩ := hB.und
      obtain ⟨aD, cD, hD1, hD2, _⟩ := hA.data
      obtain ⟨aD2, cD2, hD12, hD22, _⟩ := hB.data
      have HO1 : Hid (OBs w aD (need T dv p - 4 * units T 24 - 4) dv (p + 4 * units T 24 + 4)) := hD2
      have HO2 : Hid (OBs w aD2 (need T dv p - 4 * units T 24 - 4) dv (p + 4 * units T 24 + 4)) := hD22
      have hDl := need_le (T := T) hd p
      generalize hdl : need T dv p - 4 * units T 24 - 4 = D at HO1 HO2 hDl hD1 hD12
      clear hdl
      obtain ⟨us, hus⟩ : ∃ us, und T dv (p + ssum T 16) 10 = us := ⟨_, rfl⟩
      have hul := und_le T dv (p + ssum T 16) 10
      rw [hus] at hUo hUo2 hul
      obtain ⟨pu, cu, rfl⟩ := own_form hUo
      obtain ⟨pu2, cu2, rfl⟩ := own_form hUo2
      have HU1 : Hid (w.ownsRow B0 23 1 (.slice pu us.length cu) us.length (us.map (Value.int .u32))) := hUo
      have HU2 : Hid (w.ownsRow B 23 1 (.slice pu2 us.length cu2) us.length (us.map (Value.int .u32))) := hUo2
      have u1 := cA 16 _ hU
      have u2 := cB 16 _ hU2
      have i1 := cA 17 _ hA.id
      have i2 := cB 17 _ hB.id
      have s1 := cA 18 _ hD1
      have s2 := cB 18 _ hD12
      generalize idv T dv p = ID at i1 i2
      have e6 : ((us.length : Int) != (us.length : Int)) = false := by simp
      have e7 : (ID != ID) = false := by simp
      clear hUo hUo2 hU hU2 hD1 hD12 hD2 hD22 hA hB hus
      have fa0 : w.cell? ⟨Tb, j * 19, none⟩ = some (.int .u64 (fval T dv p 0)) := fA 0 (by omega)
      have fa1 : w.cell? ⟨Tb, j * 19 + 1, none⟩ = some (.int .u64 (fval T dv p 1)) := fA 1 (by omega)
      have fa2 : w.cell? ⟨Tb, j * 19 + 2, none⟩ = some (.int .u64 (fval T dv p 2)) := fA 2 (by omega)
      have fa3 : w.cell? ⟨Tb, j * 19 + 3, none⟩ = some (.int .u64 (fval T dv p 3)) := fA 3 (by omega)
      have fa4 : w.cell? ⟨Tb, j * 19 + 4, none⟩ = some (.int .u64 (fval T dv p 4)) := fA 4 (by omega)
      have fa5 : w.cell? ⟨Tb, j * 19 + 5, none⟩ = some (.int .u64 (fval T dv p 5)) := fA 5 (by omega)
      have fa6 : w.cell? ⟨Tb, j * 19 + 6, none⟩ = some (.int .u64 (fval T dv p 6)) := fA 6 (by omega)
      have fa7 : w.cell? ⟨Tb, j * 19 + 7, none⟩ = some (.int .u64 (fval T dv p 7)) := fA 7 (by omega)
      have fa8 : w.cell? ⟨Tb, j * 19 + 8, none⟩ = some (.int .u64 (fval T dv p 8)) := fA 8 (by omega)
      have fa9 : w.cell? ⟨Tb, j * 19 + 9, none⟩ = some (.int .u64 (fval T dv p 9)) := fA 9 (by omega)
      have fa10 : w.cell? ⟨Tb, j * 19 + 10, none⟩ = some (.int .u64 (fval T dv p 10)) := fA 10 (by omega)
      have fa11 : w.cell? ⟨Tb, j * 19 + 11, none⟩ = some (.int .u64 (fval T dv p 11)) := fA 11 (by omega)
      have fa12 : w.cell? ⟨Tb, j * 19 + 12, none⟩ = some (.int .u64 (fval T dv p 12)) := fA 12 (by omega)
      have fa13 : w.cell? ⟨Tb, j * 19 + 13, none⟩ = some (.int .u64 (fval T dv p 13)) := fA 13 (by omega)
      have fa14 : w.cell? ⟨Tb, j * 19 + 14, none⟩ = some (.int .u64 (fval T dv p 14)) := fA 14 (by omega)
      have fa15 : w.cell? ⟨Tb, j * 19 + 15, none⟩ = some (.int .u64 (fval T dv p 15)) := fA 15 (by omega)
      have fb0 : w.cell? ⟨g, j * 19, none⟩ = some (.int .u64 (fval T dv p 0)) := fB 0 (by omega)
      have fb1 : w.cell? ⟨g, j * 19 + 1, none⟩ = some (.int .u64 (fval T dv p 1)) := fB 1 (by omega)
      have fb2 : w.cell? ⟨g, j * 19 + 2, none⟩ = some (.int .u64 (fval T dv p 2)) := fB 2 (by omega)
      have fb3 : w.cell? ⟨g, j * 19 + 3, none⟩ = some (.int .u64 (fval T dv p 3)) := fB 3 (by omega)
      have fb4 : w.cell? ⟨g, j * 19 + 4, none⟩ = some (.int .u64 (fval T dv p 4)) := fB 4 (by omega)
      have fb5 : w.cell? ⟨g, j * 19 + 5, none⟩ = some (.int .u64 (fval T dv p 5)) := fB 5 (by omega)
      have fb6 : w.cell? ⟨g, j * 19 + 6, none⟩ = some (.int .u64 (fval T dv p 6)) := fB 6 (by omega)
      have fb7 : w.cell? ⟨g, j * 19 + 7, none⟩ = some (.int .u64 (fval T dv p 7)) := fB 7 (by omega)
      have fb8 : w.cell? ⟨g, j * 19 + 8, none⟩ = some (.int .u64 (fval T dv p 8)) := fB 8 (by omega)
      have fb9 : w.cell? ⟨g, j * 19 + 9, none⟩ = some (.int .u64 (fval T dv p 9)) := fB 9 (by omega)
      have fb10 : w.cell? ⟨g, j * 19 + 10, none⟩ = some (.int .u64 (fval T dv p 10)) := fB 10 (by omega)
      have fb11 : w.cell? ⟨g, j * 19 + 11, none⟩ = some (.int .u64 (fval T dv p 11)) := fB 11 (by omega)
      have fb12 : w.cell? ⟨g, j * 19 + 12, none⟩ = some (.int .u64 (fval T dv p 12)) := fB 12 (by omega)
      have fb13 : w.cell? ⟨g, j * 19 + 13, none⟩ = some (.int .u64 (fval T dv p 13)) := fB 13 (by omega)
      have fb14 : w.cell? ⟨g, j * 19 + 14, none⟩ = some (.int .u64 (fval T dv p 14)) := fB 14 (by omega)
      have fb15 : w.cell? ⟨g, j * 19 + 15, none⟩ = some (.int .u64 (fval T dv p 15)) := fB 15 (by omega)
      clear fA fB cA cB hxs hg hp
      have q29 := eq29 (fval T dv p 0) (fval T dv p 1) (fval T dv p 2) (fval T dv p 3) (fval T dv p 4) (fval T dv p 5) (fval T dv p 6) (fval T dv p 7) (fval T dv p 8) (fval T dv p 9) (fval T dv p 10) (fval T dv p 11) (fval T dv p 12) (fval T dv p 13) (fval T dv p 14) (fval T dv p 15)
      have g29 := guard29
      go_upto_region 10 with fail
      go_cut [102] from 94 to 102 (fun s wx => s = .bool false ∧ ∃ n, wx = (w.drewN q).drewN n)
      case first =>
        go_quiet (fail)
        go_wp2_with fail
        go_meet
        exact ⟨rfl, _, rfl⟩
      case rest =>
      obtain ⟨rfl, nq, rfl⟩ := hcut
      clear q29 g29 fa0 fb0 fa1 fb1 fa2 fb2 fa3 fb3 fa4 fb4 fa5 fb5 fa6 fb6 fa7 fb7 fa8 fb8 fa9 fb9 fa10 fb10 fa11 fb11 fa12 fb12 fa13 fb13 fa14 fb14 fa15 fb15
      obtain ⟨q1, hq1⟩ : ∃ q1, (w.drewN q).drewN nq = w.drewN q1 := ⟨_, World.drewN_drewN _ _ _⟩
      rw [hq1]
      clear hq1
      go_upto_region 12 with fail
      go_quiet (fail)
      obtain ⟨q2, hq2⟩ : ∃ q2, (w.drewN q1).drewN nq = w.drewN q2 := ⟨_, World.drewN_drewN _ _ _⟩
      rw [hq2]
      clear hq2 e6
      go_upto_block 2 with fail
      go_wp2_with fail
      go_loopg [8] us.length (fun k i wr => ∃ t : Nat, k = us.length - t ∧ t ≤ us.length ∧ i = .int .i64 t ∧ ∃ q, wr = w.drewN q)
      case atStart => exact ⟨0, rfl, by omega, rfl, _, rfl⟩
      case round =>
        obtain ⟨t, rfl, ht, rfl, q3, rfl⟩ := hrel
        by_cases htl : t < us.length
        · have htl' : (t : Int) < (us.length : Int) := by omega
          obtain ⟨uv, huv⟩ : ∃ uv, us[t]? = some uv := ⟨_, List.getElem?_eq_getElem htl⟩
          obtain ⟨g1, rfl, c1⟩ := und_cell HU1.out huv
          obtain ⟨g2, rfl, c2⟩ := und_cell HU2.out huv
          have e8 : (uv != uv) = false := by simp
          clear huv
          go_upto_region 17 with fail
          go_quiet (fail)
          go_wp2_with fail
          go_roundg (us.length - (t + 1))
          case measure => omega
          case rel => exact ⟨t + 1, rfl, by omega, by go_num, _, rfl⟩
        · have htl' : ¬ (t : Int) < (us.length : Int) := by omega
          go_upto_region 19 with fail
          go_quiet ((go_at_call 6; first | exact Calls.quiet_of (byteseq_calls aD aD2 D cD cD2 (p + 4 * units T 24 + 4) (p + 4 * units T 24 + 4) dv dv _ (by omega) HO1.out HO2.out (fun i hi => rfl)) | exact byteseq_q aD aD2 D cD cD2 (p + 4 * units T 24 + 4) dv w _ _ (by omega) HO1.out HO2.out))
          go_wp2_with fail
          go_roundg (ps.length - (j + 1))
          case measure => omega
          case rel => exact ⟨j + 1, rfl, by omega, by go_num, _, rfl⟩
    · have hjl' : ¬ (j : Int) < (ps.length : Int) := by omega
      go_wp2
      go_ret
      exact ⟨rfl, q, rfl⟩
end Go.Proofs.YbulkdycwFmt
