/- reach, owners, answers: by contract. -/
import Derived.Test.YbulkdxyaFmtFirst
import Derived.Deep.AppendLies
namespace Go.Proofs.YbulkdxyaFmt
open Go.RowKit
set_option linter.unusedSimpArgs false
set_option linter.unusedVariables false

set_option maxRecDepth 100000 in
set_option maxHeartbeats 2000000 in
theorem reach_calls (id t : Int) (vp : Option Addr) (n c : Nat) (w : World) :
    Calls Ybaf.prog 65 #[.agg #[.int .u64 id, .slice vp n c, .int .i64 0, .int .i64 0, .bool true], .int .u64 t] w fun e w' => e = .returned (.tuple #[.int .u64 18446744073709551615, .bool true]) ∧ Below w.heap.size w w' := by
  go_enter Ybaf.func65, Ybaf.ntmps65
  go_wp2_with fail
  go_ret2
  exact ⟨rfl, (Below.refl _ _).alloc (Nat.le_refl _) _⟩
theorem inf50' : (Ybaf.prog.info? 50).map (fun i => (i.zero, i.size, i.bytes)) = some (some (.int .u64 0), 1, 8) := by kernel_rfl
theorem info_parts {P : Program} {t : TypeId} {x : Option Value × Nat × Nat} (h : (P.info? t).map (fun i => (i.zero, i.size, i.bytes)) = some x) : ∃ i, P.info? t = some i ∧ i.zero = x.1 ∧ i.size = x.2.1 ∧ i.bytes = x.2.2 := by
  cases hq : P.info? t with
  | none => rw [hq] at h; cases h
  | some i => rw [hq] at h; cases h; exact ⟨i, rfl, rfl, rfl, rfl⟩

theorem grown_below {B : Nat} {w W W5 : World} {o : Obj} (h : Below B w W) (hg : (W.alloc o).grownBy W5 (Value.slice none 0 0).ownBlock) (hB : B ≤ W.heap.size := by first | assumption | exact h.size) : Below B w W5 := by
  have h1 : Below B W (W.alloc o) := (Below.refl _ _).alloc hB o
  have h2 : Below B (W.alloc o) W5 := ⟨hg.os, hg.tape, hg.output, hg.size, fun k hk => hg.block k (by simp; omega) (by simp [Value.ownBlock])⟩
  exact (h.trans h1).trans h2
set_option maxRecDepth 100000 in
set_option maxHeartbeats 4000000 in
theorem owners_calls (N m3 : Nat) (S : Int → Bool) (id key : Int) (vp : Option Addr) (n c : Nat) (vv : Nat → Int) (w : World) (c39 : w.cell? ⟨N, 39, none⟩ = some (.map (some m3))) (hm : DMap w m3 S) (hv : OV w vp n vv) (hn : n ≤ 1000000) :
    Calls Ybaf.prog 42 #[.agg #[.int .u64 id, .slice vp n c, .int .i64 0, .int .i64 0, .bool true], .int .u64 key, .int .i64 0, .func (.func 43) #[.pointer (some ⟨N, 0, none⟩)] #[]] w fun e w' => ∃ v, e = .returned (.tuple #[v, .bool (!S id || al S vv n)]) ∧ Below w.heap.size w w' := by
  obtain ⟨i50, hi50, hz0, hz1, hz2⟩ := info_parts inf50'
  obtain ⟨w1, HW1⟩ : ∃ W : World, Hid (W = w.alloc (.cells #[.int .u64 id, .slice vp n c, .int .i64 0, .int .i64 0, .bool true] 123)) := ⟨_, rfl⟩
  have hb1 : Below w.heap.size w w1 := by rw [HW1.out]; exact (Below.refl _ _).alloc (Nat.le_refl _) _
  have hs1 : w1.heap.size = w.heap.size + 1 := by rw [HW1.out]; simp
  have hA : w1.heap[w.heap.size]? = some (.cells #[.int .u64 id, .slice vp n c, .int .i64 0, .int .i64 0, .bool true] 123 (0, 0)) := by rw [HW1.out]; exact new_at rfl
  have HA : Hid (∀ W : World, Below w1.heap.size w1 W → W.cell? ⟨w.heap.size, 0, none⟩ = some (.int .u64 id) ∧ W.cell? ⟨w.heap.size, 1, none⟩ = some (.slice vp n c) ∧ W.cell? ⟨w.heap.size, 2, none⟩ = some (.int .i64 0) ∧ W.cell? ⟨w.heap.size, 3, none⟩ = some (.int .i64 0) ∧ W.cell? ⟨w.heap.size, 4, none⟩ = some (.bool true)) := fun W hW => by
    have := (hW.block _ (by omega)).trans hA
    exact ⟨cell_of this rfl, cell_of this rfl, cell_of this rfl, cell_of this rfl, cell_of this rfl⟩
  have HFst : Hid (∀ W : World, Below w1.heap.size w1 W → Calls Ybaf.prog 66 #[.agg #[.int .u64 id, .slice vp n c, .int .i64 0, .int .i64 0, .bool true], .int .u64 key, .int .u64 18446744073709551615, .func (.func 43) #[.pointer (some ⟨N, 0, none⟩)] #[]] W fun e w' => ∃ y, e = .returned (.tuple #[.int .u64 y, .bool (!S id || al S vv n)]) ∧ Below W.heap.size W w') := fun W hW => by
    have hb : Below w.heap.size w W := hb1.trans (hW.mono (by omega))
    exact first_calls N m3 S id key vp n c vv W ((hb.cell (lt_of_cell c39)).trans c39) (hm.keep (hb.block _ hm.lt)) (hv.keep hb) hn
  generalize hlv : (!S id || al S vv n) = live at HFst
  have HLV : Hid ((!S id || al S vv n) = live) := hlv
  clear hlv
  obtain ⟨x0, x1, x2, x3, x4⟩ := HA.out w1 (Below.refl _ _)
  have HB1 : Hid (Below w.heap.size w w1 ∧ w1.heap.size = w.heap.size + 1) := ⟨hb1, hs1⟩
  clear hb1 hs1 hA c39 hm hv
  go_enter Ybaf.func42, Ybaf.ntmps42
  go_upto_region 1 with fail
  rw [← HW1.out]
  go_upto_region 4 with (go_at_call 65; refine (reach_calls id key vp n c _).mono ?_; rintro e' w2 ⟨rfl, hb2⟩; have HB2 : Hid (Below w1.heap.size w1 w2) := hb2; clear hb2)
  go_upto_block 0 with fail
  go_wp2_with fail
  clear x0 x1 x2 x3 x4
  go_loopg [10, 12, 13, 14, 15, 16] 1 (fun k rch run frm x fnd d wr => Hid (Below w1.heap.size w1 wr) ∧ ((k = 1 ∧ run = .slice none 0 0 ∧ rch = .int .u64 18446744073709551615 ∧ frm = .int .u64 key) ∨ (k = 0 ∧ (∃ p c, run = .slice p 1 c) ∧ Hid (live = true))))
  case atStart => exact ⟨HB2, .inl ⟨rfl, rfl, rfl, rfl⟩⟩
  case round =>
    clear HB2
    obtain ⟨HL, hcase⟩ := hrel
    obtain ⟨x0, x1, x2, x3, x4⟩ := HA.out wr HL.out
    rcases hcase with ⟨rfl, rfl, rfl, rfl⟩ | ⟨rfl, ⟨p, c, rfl⟩, HLT⟩
    · have HC := HFst.out wr HL.out
      have HC' : Hid (Calls Ybaf.prog 66 _ _ _) := HC
      clear HC
      cases live
      · go_wp2_with (go_at_call 66; refine HC'.out.mono ?_; rintro e' w3 ⟨y, rfl, hb3⟩; have HB3 : Hid (Below w1.heap.size w1 w3) := HL.out.trans (hb3.mono HL.out.size); clear hb3)
        go_ret2
        refine ⟨_, by first | rfl | (rw [HLV.out]; rfl), HB1.out.1.trans (HB3.out.mono (by rw [HB1.out.2]; omega))⟩
      · go_upto_region 9 with (go_at_call 66; refine HC'.out.mono ?_; rintro e' w3 ⟨y, rfl, hb3⟩; have HB3 : Hid (Below w1.heap.size w1 w3) := HL.out.trans (hb3.mono HL.out.size); clear hb3)
        by_cases hd : cw key y = 18446744073709551615
        · have hd' : (cw key y == 18446744073709551615) = true := by simp [hd]
          clear hd
          go_wp2_with (first
            | (go_at_call 60; refine (clockwise_calls _ _ _).mono ?_; rintro e' w' ⟨rfl, rfl⟩)
            | (at_builtin; refine wpList_append_lies _ rfl (.tmp 40) (.tmp 42) 43 rfl w1.heap.size 50 i50 (.int .u64 0) 1 8 Ybaf.underlying43 hi50 hz0 hz1 hz2 rfl (by decide) (.slice none 0 0) 0 [] rfl (World.ownsRow_nil _ _ _ _) ⟨w3.heap.size, 0, none⟩ 1 1 [.int .u64 y] rfl rfl (World.news_of_block (cs := #[.int .u64 y]) (heap_alloc_new _ _)) (by simp [Value.oneCell']) (by omega) (by unfold maxLen; omega) (by omega) (by have := HB3.out.size; simp; omega) _ rfl ?_; intro g cap w5 hown hgrow hat hltg; have HB5 : Hid (Below w1.heap.size w1 w5) := grown_below HB3.out hgrow HB3.out.size; clear hown hgrow hat hltg))
          go_ret2
          refine ⟨_, by first | rfl | (rw [HLV.out]; rfl), HB1.out.1.trans (HB5.out.mono (by rw [HB1.out.2]; omega))⟩
        · have hd' : (cw key y == 18446744073709551615) = false := by simp [hd]
          clear hd
          go_wp2_with (first
            | (go_at_call 60; refine (clockwise_calls _ _ _).mono ?_; rintro e' w' ⟨rfl, rfl⟩)
            | (at_builtin; refine wpList_append_lies _ rfl (.tmp 40) (.tmp 42) 43 rfl w1.heap.size 50 i50 (.int .u64 0) 1 8 Ybaf.underlying43 hi50 hz0 hz1 hz2 rfl (by decide) (.slice none 0 0) 0 [] rfl (World.ownsRow_nil _ _ _ _) ⟨w3.heap.size, 0, none⟩ 1 1 [.int .u64 y] rfl rfl (World.news_of_block (cs := #[.int .u64 y]) (heap_alloc_new _ _)) (by simp [Value.oneCell']) (by omega) (by unfold maxLen; omega) (by omega) (by have := HB3.out.size; simp; omega) _ rfl ?_; intro g cap w5 hown hgrow hat hltg; have HB5 : Hid (Below w1.heap.size w1 w5) := grown_below HB3.out hgrow HB3.out.size; clear hown hgrow hat hltg))
          go_roundg 0
          case measure => omega
          case rel => exact ⟨HB5, .inr ⟨rfl, ⟨_, _, rfl⟩, by first | trivial | exact rfl⟩⟩
    · have hlt := HLT.out
      subst hlt
      go_wp2_with fail
      go_ret2
      have hfin : Below w.heap.size w wr := HB1.out.1.trans (HL.out.mono (by rw [HB1.out.2]; omega))
      first
        | exact ⟨⟨_, rfl⟩, hfin⟩
        | exact ⟨_, rfl, hfin⟩

theorem results_tct {fn : Func} {u p q : Tmp} (h : fn.results = #[.tmp u, .cell p 123, .tmp q]) (tmps : Array Value) (w : World) (g : Nat) (v1 v2 : Value) (cs : Array Value) (h1 : tmps.getD u undef = v1) (hp : tmps.getD p undef = .pointer (some ⟨g, 0, none⟩)) (h2 : tmps.getD q undef = v2) (hg : w.heap[g]? = some (.cells cs 123 (0, 0))) (hs : cs.size = 5 := by rfl) :
    (results fn tmps).run Ybaf.prog w = .ok (.tuple #[v1, .agg cs, v2]) w := by
  have hp' : tmps[p]?.getD undef = .pointer (some ⟨g, 0, none⟩) := by simpa using hp
  have h1' : tmps[u]?.getD undef = v1 := by simpa using h1
  have h2' : tmps[q]?.getD undef = v2 := by simpa using h2
  have hl := run_loadVar_row (P := Ybaf.prog) w g 123 123 cs (0, 0) _ hg Ybaf.underlying123 rfl (by rw [hs]; exact info123)
  simp [results, h, hp', h1', h2', asAddr, hl]
set_option maxRecDepth 100000 in
set_option maxHeartbeats 4000000 in
theorem answers_calls (N m1 m3 bb : Nat) (R : Array Value) (S : Int → Bool) (id key : Int) (ht : TypeId) (hv : Value) (vp : Option Addr) (n c : Nat) (vv : Nat → Int) (w : World) (hN : NX w N R id ht hv m1 m3) (hp : w.heap[m1]? = some (.map #[] 0)) (hm : DMap w m3 S) (hV : R[21]? = some (.slice vp n c)) (hov : OV w vp n vv) (hn : n ≤ 1000000) (hbb : w.heap[bb]? = some (.cells #[.int .u64 id] 50 (0, 0))) :
    Calls Ybaf.prog 22 #[.pointer (some ⟨N, 0, none⟩), .int .u64 key, .int .i64 0, .slice (some ⟨bb, 0, none⟩) 1 1] w fun e w' => ∃ v, e = .returned (.tuple #[v, .agg #[.int .u64 id, .slice vp n c, .int .i64 0, .int .i64 0, .bool true], .bool (!S id || al S vv n)]) ∧ Below w.heap.size w w' := by
  obtain ⟨B, hB⟩ : ∃ B, w.heap.size = B := ⟨_, rfl⟩
  have HB : Hid (w.heap.size = B) := hB
  obtain ⟨w1, HW1⟩ : ∃ W : World, Hid (W = w.alloc (.cells #[.int .u64 0, .slice none 0 0, .int .i64 0, .int .i64 0, .bool false] 123)) := ⟨_, rfl⟩
  have hb1 : Below B w w1 := by rw [HW1.out]; exact (Below.refl _ _).alloc (by omega) _
  have hb1' : Below w.heap.size w w1 := by rw [hB]; exact hb1
  have hs1 : w1.heap.size = B + 1 := by rw [HW1.out, ← hB]; simp
  have hR : w1.heap[B]? = some (.cells #[.int .u64 0, .slice none 0 0, .int .i64 0, .int .i64 0, .bool false] 123 (0, 0)) := by rw [HW1.out]; exact new_at hB.symm
  have hX1 := hN.keep hb1'
  have c0 := hX1.cell hX1.nf.id0
  have hc1 : w1.cell? ⟨bb, 0, none⟩ = some (.int .u64 id) := cell_of ((hb1'.block bb (Array.getElem?_eq_some_iff.1 hbb).1).trans hbb) rfl
  have HCt : Hid (Calls Ybaf.prog 40 _ _ _) := contains_one bb 1 id w1 hc1
  have HCa : Hid (Calls Ybaf.prog 41 _ _ _) := arc_calls N R id ht hv m1 m3 (.slice vp n c) w1 hX1 ((hb1'.block m1 (Array.getElem?_eq_some_iff.1 hp).1).trans hp) hV ⟨_, _, _, rfl⟩
  have HO : Hid (∀ W : World, Below w1.heap.size w1 W → Calls Ybaf.prog 42 #[.agg #[.int .u64 id, .slice vp n c, .int .i64 0, .int .i64 0, .bool true], .int .u64 key, .int .i64 0, .func (.func 43) #[.pointer (some ⟨N, 0, none⟩)] #[]] W fun e w' => ∃ v, e = .returned (.tuple #[v, .bool (!S id || al S vv n)]) ∧ Below W.heap.size W w') := fun W hW => by
    have hb : Below w.heap.size w W := hb1'.trans (hW.mono (by omega))
    have hXW := hN.keep hb
    exact owners_calls N m3 S id key vp n c vv W (hXW.cell hXW.nf.dead) (hm.keep (hb.block _ hm.lt)) (hov.keep hb) hn
  have HR : Hid (∀ W : World, Below w1.heap.size w1 W → W.heap[B]? = some (.cells #[.int .u64 0, .slice none 0 0, .int .i64 0, .int .i64 0, .bool false] 123 (0, 0))) := fun W hW => (hW.block _ (by omega)).trans hR
  have HB1 : Hid (Below B w w1 ∧ w1.heap.size = B + 1) := ⟨hb1, hs1⟩
  generalize hlv : (!S id || al S vv n) = live at HO
  have HLV : Hid ((!S id || al S vv n) = live) := hlv
  clear hlv hb1 hb1' hs1 hR hX1 hc1 hN hp hm hov hbb hB
  go_enter Ybaf.func22, Ybaf.ntmps22
  go_upto_region 1 with fail
  rw [← HW1.out, HB.out]
  go_upto_region 3 with (go_at_call 40; refine HCt.out.mono ?_; rintro e' w' ⟨rfl, rfl⟩)
  go_upto_region 4 with (go_at_call 41; refine HCa.out.mono ?_; rintro e' w2 ⟨rfl, hb2⟩; have HB2 : Hid (Below w1.heap.size w1 w2) := hb2; clear hb2)
  obtain ⟨w3, HW3⟩ : ∃ W : World, Hid (W = w2.alloc (.cells #[.int .u64 id, .slice vp n c, .int .i64 0, .int .i64 0, .bool true] 123)) := ⟨_, rfl⟩
  obtain ⟨ab, hab⟩ : ∃ x, w2.heap.size = x := ⟨_, rfl⟩
  rw [← HW3.out, hab]
  have hb3 : Below w1.heap.size w1 w3 := by rw [HW3.out]; exact HB2.out.alloc HB2.out.size _
  have hA3 : w3.heap[ab]? = some (.cells #[.int .u64 id, .slice vp n c, .int .i64 0, .int .i64 0, .bool true] 123 (0, 0)) := by rw [HW3.out]; exact new_at hab.symm
  have hs3 : w3.heap.size = ab + 1 := by rw [HW3.out, ← hab]; simp
  have hs2 : w1.heap.size ≤ ab := by rw [← hab]; exact HB2.out.size
  have HC3 := HO.out w3 hb3
  have HC3' : Hid (Calls Ybaf.prog 42 _ _ _) := HC3
  have y0 : w3.cell? ⟨ab, 0, none⟩ = some (.int .u64 id) := cell_of hA3 rfl
  have y1 : w3.cell? ⟨ab, 1, none⟩ = some (.slice vp n c) := cell_of hA3 rfl
  have y2 : w3.cell? ⟨ab, 2, none⟩ = some (.int .i64 0) := cell_of hA3 rfl
  have y3 : w3.cell? ⟨ab, 3, none⟩ = some (.int .i64 0) := cell_of hA3 rfl
  have y4 : w3.cell? ⟨ab, 4, none⟩ = some (.bool true) := cell_of hA3 rfl
  have HA3 : Hid (w3.heap[ab]? = some (.cells #[.int .u64 id, .slice vp n c, .int .i64 0, .int .i64 0, .bool true] 123 (0, 0)) ∧ Below w1.heap.size w1 w3) := ⟨hA3, hb3⟩
  clear HC3 hb3 hA3 HW3 hab
  go_upto_region 5 with (go_at_call 42; refine HC3'.out.mono ?_; rintro e' w4 ⟨v, rfl, hb4⟩; have HB4 : Hid (Below w3.heap.size w3 w4) := hb4; clear hb4)
  have hA4 : w4.heap[ab]? = some (.cells #[.int .u64 id, .slice vp n c, .int .i64 0, .int .i64 0, .bool true] 123 (0, 0)) := (HB4.out.block ab (by omega)).trans HA3.out.1
  have hb14 : Below w1.heap.size w1 w4 := HA3.out.2.trans (HB4.out.mono (by omega))
  have hR4 := HR.out w4 hb14
  have hne : B ≠ ab := by have := HB1.out.2; omega
  clear y0 y1 y2 y3 y4
  have y0 : w4.cell? ⟨ab, 0, none⟩ = some (.int .u64 id) := cell_of hA4 rfl
  have y1 : w4.cell? ⟨ab, 1, none⟩ = some (.slice vp n c) := cell_of hA4 rfl
  have y2 : w4.cell? ⟨ab, 2, none⟩ = some (.int .i64 0) := cell_of hA4 rfl
  have y3 : w4.cell? ⟨ab, 3, none⟩ = some (.int .i64 0) := cell_of hA4 rfl
  have y4 : w4.cell? ⟨ab, 4, none⟩ = some (.bool true) := cell_of hA4 rfl
  have z0 : w4.cell? ⟨B, 0, none⟩ = some (.int .u64 0) := cell_of hR4 rfl
  have z1 : w4.cell? ⟨B, 1, none⟩ = some (.slice none 0 0) := cell_of hR4 rfl
  have z2 : w4.cell? ⟨B, 2, none⟩ = some (.int .i64 0) := cell_of hR4 rfl
  have z3 : w4.cell? ⟨B, 3, none⟩ = some (.int .i64 0) := cell_of hR4 rfl
  have z4 : w4.cell? ⟨B, 4, none⟩ = some (.bool false) := cell_of hR4 rfl
  have k0 : w4.frozen? ⟨B, 0, none⟩ = false := frozen_of hR4
  have k1 : w4.frozen? ⟨B, 1, none⟩ = false := frozen_of hR4
  have k2 : w4.frozen? ⟨B, 2, none⟩ = false := frozen_of hR4
  have k3 : w4.frozen? ⟨B, 3, none⟩ = false := frozen_of hR4
  have k4 : w4.frozen? ⟨B, 4, none⟩ = false := frozen_of hR4
  have HX4 : Hid (w4.heap[B]? = some (.cells #[.int .u64 0, .slice none 0 0, .int .i64 0, .int .i64 0, .bool false] 123 (0, 0)) ∧ Below w1.heap.size w1 w4) := ⟨hR4, hb14⟩
  clear hA4 hb14 hR4
  go_region
  all_goals go_wp2_with fail
  all_goals
  have hst := (((((BStep.refl HX4.out.1).set 0 (.int .u64 id)).set 1 (.slice vp n c)).set 2 (.int .i64 0)).set 3 (.int .i64 0)).set 4 (.bool true)
  simp at hst
  refine bodyPost_ret (results_tct (u := 8) (p := 9) (q := 10) (by kernel_rfl) _ _ B _ _ #[.int .u64 id, .slice vp n c, .int .i64 0, .int .i64 0, .bool true] rfl rfl rfl hst.drew.par) rfl ?_
  refine ⟨v, by first | rfl | (rw [HLV.out]; rfl), ?_⟩
  rw [HB.out]
  exact (HB1.out.1.trans (HX4.out.2.mono (by rw [HB1.out.2]; omega))).trans (hst.drew.below B (Nat.le_refl _))
end Go.Proofs.YbulkdxyaFmt
