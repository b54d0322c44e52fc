/- The model: by contract. -/
import Derived.Test.YbulkdycwFmtMState
import Derived.BigRegion
namespace Go.Proofs.YbulkdycwFmt
open Go.RowKit
open Go.Extern.Stop Go.Stop Go.Extern
set_option linter.unusedSimpArgs false
set_option linter.unusedVariables false

theorem or8_u16 (v x : Int) (hv : 0 ≤ v) (hv1 : v < 256) (hx : 0 ≤ x) (hx1 : x < 256) : bits .or .u16 (v * 256) x = v * 256 + x :=
  bits_join .u16 16 (by decide) wraps_u16 8 _ x (by omega) (by omega) (by omega) hx hx1 (by omega)
theorem or16_u32 (v x : Int) (hv : 0 ≤ v) (hv1 : v < 256) (hx : 0 ≤ x) (hx1 : x < 256) : bits .or .u32 (v * 65536) (x * 256) = v * 65536 + x * 256 :=
  bits_join .u32 32 (by decide) wraps_u32 16 _ _ (by omega) (by omega) (by omega) (by omega) (by omega) (by omega)
theorem or8_u32 (v x : Int) (hv : 0 ≤ v) (hv1 : v < 65536) (hx : 0 ≤ x) (hx1 : x < 256) : bits .or .u32 (v * 256) x = v * 256 + x :=
  bits_join .u32 32 (by decide) wraps_u32 8 _ x (by omega) (by omega) (by omega) hx hx1 (by omega)
theorem info39 : (Ybaf.prog.info? 39).map (·.size) = some 6 := by kernel_rfl

set_option maxRecDepth 100000 in
set_option maxHeartbeats 2000000 in
theorem model_short (ad : Addr) (n c : Nat) (dv : Nat → Int) (w : World) (h8 : n < 8) :
    Calls Ybaf.prog 7 #[.slice (some ad) n c] w fun e w' => MOut w w' w.heap.size dv n e := by
  have h8' : (n : Int) < 8 := by omega
  go_enter Ybaf.func7, Ybaf.ntmps7
  go_wp2
  (try simp only [Exit.inBlock, Exit.then])
  show bodyPost Ybaf.prog Ybaf.f7 (fun e w' => MOut w w' w.heap.size dv n e) _ _ _
  refine bodyPost_ret (results_cell_row_tmp (p := 2) (u := 3) (ty := 39) (by kernel_rfl) _ _ w.heap.size 39 z6 (0, 0) _ _ rfl rfl (heap_alloc_new _ _) Ybaf.underlying39 rfl info39) rfl ?_
  refine ⟨[], true, .slice none 0 0, [], .inl ⟨.inl h8, rfl, rfl⟩, ?_, MN.none _ _ _ _, (Below.refl _ _).alloc (Nat.le_refl _) _⟩
  simp [vNs, vNl, vFl, vRl, vTy, h8]

theorem units_q (T : Nat) (w : World) (hT : T < 16777216) : Calls Ybaf.prog 4 #[.int .u32 T] w fun e w' => e = .returned (.int .i64 (units T 24)) ∧ ∃ q, w' = w.drewN q :=
  (units_calls T w hT).mono fun _ _ ⟨h1, h2⟩ => ⟨h1, 0, h2.symm⟩
theorem own_cell {w : World} {B n : Nat} {e : TypeId} {sz : Nat} {v : Value} {xs : List Value} (h : w.ownsRow B e sz v n xs) : v.oneCell' = true := by
  obtain ⟨p, c, rfl⟩ := own_form h
  simp [Value.oneCell']
theorem one_list {A : Array Value} (h : A.all (·.oneCell') = true) : ∀ u ∈ A.toList, u.oneCell' = true := by
  rw [Array.all_eq_true_iff_forall_mem] at h
  intro u hu
  exact h u (by simpa using hu)
theorem foldl_zip (l : List Value) : ∀ (z : Array Value) (k : Nat), (l.zipIdx k).foldl (fun (cs : Array Value) (x : Value × Nat) => cs.setIfInBounds x.snd x.fst) z = setAll z k l := by
  induction l with
  | nil => intro z k; rfl
  | cons v r ih => intro z k; rw [List.zipIdx_cons, List.foldl_cons, ih]; rfl
theorem fold_row {z A : Array Value} {m : Nat} (h : z.size = A.size) (hm : m = A.size) : Array.foldl (fun (cs : Array Value) (x : Value × Nat) => cs.setIfInBounds x.snd x.fst) z A.zipIdx 0 m = A := by
  subst hm
  have h1 : A.size = A.zipIdx.size := by simp
  rw [h1, ← Array.foldl_toList, Array.toList_zipIdx, foldl_zip]
  exact setAll_full h
theorem alloc_le (w : World) (o : Obj) : w.heap.size ≤ (w.alloc o).heap.size := by simp
theorem at_app {P : Program} {ops : Array Oper} {o : Oper} {a : Act} {w : World} {K : Act → World → Prop} {Q : Exit → Act → World → Prop} {E : Prop} (ho : o.op = .call { callee := .builtin .append, args := #[.tmp 137, .tmp 154], argTypes := #[27, 27] })
    (h : if Region.wanted o (yielded ops a.tmps) = true then Oper.wp P o a w K Q else E) : if Region.wanted o (yielded ops a.tmps) = true then Oper.wp P o a w K Q else E := h
theorem ms_start {w W1 W2 : World} {N L p : Nat} {dv : Nat → Int} (hS : W2.heap.size = N + 1) (hW : Below W1.heap.size W1 W2) (hZ : W1.heap[N]? = some (.cells z6 39 (0, 0))) (hB : Below N w W1) : MS w (W2.alloc (.cells (hdr dv (.slice none 0 0)) 39)).drew N dv L p p [] (.slice none 0 0) [] := by
  have hlt : N < W1.heap.size := (Array.getElem?_eq_some_iff.1 hZ).1
  have hb : Below W1.heap.size W1 (W2.alloc (.cells (hdr dv (.slice none 0 0)) 39)).drew := (hW.alloc hW.size _).drew
  exact ⟨(hb.block N hlt).trans hZ, new_at hS.symm, World.ownsRow_nil _ _ _ _, fun j p h => by simp at h, fun j U g h => by simp at h, hB.trans (hb.mono (by omega)), fun ps b h => h, by simp, by simp [hS]⟩

set_option maxRecDepth 100000 in
set_option maxHeartbeats 4000000 in
theorem model_long (ad : Addr) (n c : Nat) (dv : Nat → Int) (w : World) (h8 : 8 ≤ n) (hd : Bytes dv) (hb : BsAt w ad n dv 0) (hnc : n ≤ c) (hn : n ≤ 2097152) (hab : ad.block < w.heap.size) :
    Calls Ybaf.prog 7 #[.slice (some ad) n c] w fun e w' => MOut w w' w.heap.size dv n e := by
  have h8' : ¬ (n : Int) < 8 := by omega
  obtain ⟨N, hN⟩ : ∃ N, w.heap.size = N := ⟨_, rfl⟩
  have HN : Hid (w.heap.size = N) := hN
  have HBW : Hid (BsAt w ad n dv 0) := hb
  obtain ⟨W1, HW1⟩ : ∃ W : World, Hid (W = w.alloc (.cells z6 39)) := ⟨_, rfl⟩
  have HS1 : W1.heap.size = N + 1 := by rw [HW1.out, ← hN]; simp
  have HB1 : Hid (Below N w W1) := by rw [HW1.out]; exact (Below.refl _ _).alloc (by omega) _
  have HZ1 : Hid (W1.heap[N]? = some (.cells z6 39 (0, 0))) := by rw [HW1.out]; exact new_at hN.symm
  have cell : ∀ i, i < n → W1.cell? (ad.add i) = some (.int .u8 (dv i)) := fun i hi => by
    have h1 := (HB1.out.cell (by rw [add_block]; omega)).trans (hb i hi)
    rw [Nat.zero_add] at h1
    exact h1
  have c0 := cell 0 (by omega)
  have c1 := cell 1 (by omega)
  have c2 := cell 2 (by omega)
  have c3 := cell 3 (by omega)
  have c4 := cell 4 (by omega)
  have c5 := cell 5 (by omega)
  have c6 := cell 6 (by omega)
  simp only [Addr.add, Nat.reduceEqDiff, if_true, if_false, reduceIte] at c0 c1 c2 c3 c4 c5 c6
  have x0 := hd 0
  have x1 := hd 1
  have x2 := hd 2
  have x3 := hd 3
  have x4 := hd 4
  have x5 := hd 5
  have x6 := hd 6
  have e02 : be dv 0 2 = dv 0 * 256 + dv 1 := by simp [be]
  have e22 : be dv 2 2 = dv 2 * 256 + dv 3 := by simp [be]
  have e43 : be dv 4 3 = (dv 4 * 256 + dv 5) * 256 + dv 6 := by simp [be]
  obtain ⟨hT1, hT2, hT3⟩ := hTy_eq hd
  obtain ⟨hl1, hl2⟩ := hNl_eq hd
  have o1 : bits .or .u16 (dv 0 * 256) (dv 1) = hNs dv := by rw [or8_u16 _ _ x0.1 (by omega) x1.1 (by omega)]; exact e02.symm
  have o2 : bits .or .u16 (dv 2 * 256) (dv 3) = be dv 2 2 := by rw [or8_u16 _ _ x2.1 (by omega) x3.1 (by omega)]; exact e22.symm
  have o3 : bits .or .u32 (dv 4 * 65536) (dv 5 * 256) = (dv 4 * 256 + dv 5) * 256 := by rw [or16_u32 _ _ x4.1 (by omega) x5.1 (by omega)]; omega
  have o4 : bits .or .u32 ((dv 4 * 256 + dv 5) * 256) (dv 6) = (hTy dv : Int) := by rw [or8_u32 _ _ (by omega) (by omega) x6.1 (by omega), ← e43]; exact hT2
  have bL := be_bounds hd 2 2
  have bL1 : be dv 2 2 < 65536 := by have := bL.2; omega
  have bL0 := bL.1
  have ha1 : bits .and .u16 (be dv 2 2 / 128) 15 = hFl dv := bits_mask .u16 16 (by decide) wraps_u16 4 (by decide) _ (by omega) (by omega)
  have ha2 : bits .and .u16 (be dv 2 2) 127 = hRl dv := bits_mask .u16 16 (by decide) wraps_u16 7 (by decide) _ (by omega) (by omega)
  have hfl : 0 ≤ hFl dv ∧ hFl dv ≤ 15 := by unfold hFl; omega
  have hrl : 0 ≤ hRl dv ∧ hRl dv ≤ 127 := by unfold hRl; omega
  obtain ⟨hfl0, hfl1⟩ := hfl
  obtain ⟨hrl0, hrl1⟩ := hrl
  obtain ⟨x00, x01⟩ := x0
  obtain ⟨x10, x11⟩ := x1
  obtain ⟨x20, x21⟩ := x2
  obtain ⟨x30, x31⟩ := x3
  obtain ⟨x40, x41⟩ := x4
  obtain ⟨x50, x51⟩ := x5
  obtain ⟨x60, x61⟩ := x6
  clear bL e02 e22 e43 hT1 hT2 hN hb cell
  generalize dv 0 = y0 at *
  generalize dv 1 = y1 at *
  generalize dv 2 = y2 at *
  generalize dv 3 = y3 at *
  generalize dv 4 = y4 at *
  generalize dv 5 = y5 at *
  generalize dv 6 = y6 at *
  generalize hLL : be dv 2 2 = LL at *
  have HL1 : Hid (LL / 2048 = (hNl dv : Int)) := hl1
  clear hl1 hLL
  have l0 : (0 : Int) < (n : Int) := by omega
  have l1 : (1 : Int) < (n : Int) := by omega
  have l2 : (2 : Int) < (n : Int) := by omega
  have l3 : (3 : Int) < (n : Int) := by omega
  have l4 : (4 : Int) < (n : Int) := by omega
  have l5 : (5 : Int) < (n : Int) := by omega
  have l6 : (6 : Int) < (n : Int) := by omega
  go_enter Ybaf.func7, Ybaf.ntmps7
  go_upto_region 3 with fail
  rw [← HW1.out, HN.out]
  go_quiet (fail)
  obtain ⟨W2, HW2⟩ : ∃ W, Hid (W = W1.drewN nq) := ⟨_, rfl⟩
  have hd2 : Below W1.heap.size W1 W2 := by rw [HW2.out]; exact below_drewN (Below.refl _ _) _
  rw [← HW2.out]
  have hlt1 : ad.block < W1.heap.size := by have := HN.out; omega
  have hs2 : W1.heap.size ≤ W2.heap.size := hd2.size
  replace c0 := (hd2.cell (p := ad) hlt1).trans c0
  replace c1 := (hd2.cell (p := ⟨ad.block, ad.off + 1, none⟩) hlt1).trans c1
  replace c4 := (hd2.cell (p := ⟨ad.block, ad.off + 4, none⟩) hlt1).trans c4
  replace c5 := (hd2.cell (p := ⟨ad.block, ad.off + 5, none⟩) hlt1).trans c5
  replace c6 := (hd2.cell (p := ⟨ad.block, ad.off + 6, none⟩) hlt1).trans c6
  have hlt2 : ad.block < W2.heap.size := by omega
  have a0 : ∀ o, (W2.alloc o).cell? ad = some (.int .u8 y0) := fun o => (((Below.refl W2.heap.size W2).alloc (Nat.le_refl _) o).cell hlt2).trans c0
  have a1 : ∀ o, (W2.alloc o).cell? ⟨ad.block, ad.off + 1, none⟩ = some (.int .u8 y1) := fun o => (((Below.refl W2.heap.size W2).alloc (Nat.le_refl _) o).cell (p := ⟨ad.block, ad.off + 1, none⟩) hlt2).trans c1
  have a4 : ∀ o, (W2.alloc o).cell? ⟨ad.block, ad.off + 4, none⟩ = some (.int .u8 y4) := fun o => (((Below.refl W2.heap.size W2).alloc (Nat.le_refl _) o).cell (p := ⟨ad.block, ad.off + 4, none⟩) hlt2).trans c4
  have a5 : ∀ o, (W2.alloc o).cell? ⟨ad.block, ad.off + 5, none⟩ = some (.int .u8 y5) := fun o => (((Below.refl W2.heap.size W2).alloc (Nat.le_refl _) o).cell (p := ⟨ad.block, ad.off + 5, none⟩) hlt2).trans c5
  have a6 : ∀ o, (W2.alloc o).cell? ⟨ad.block, ad.off + 6, none⟩ = some (.int .u8 y6) := fun o => (((Below.refl W2.heap.size W2).alloc (Nat.le_refl _) o).cell (p := ⟨ad.block, ad.off + 6, none⟩) hlt2).trans c6
  have l0' : 0 < n := by omega
  have HD2 : Hid (Below W1.heap.size W1 W2) := hd2
  have hS2 : W2.heap.size = N + 1 := by rw [HW2.out]; have : (W1.drewN nq).heap = W1.heap := World.heap_drewN _ _; rw [this]; exact HS1
  clear c2 c3 hd2 HW2 hs2 hlt1 o2 x20 x21 x30 x31 l2 l3
  go_upto_region 4 with fail
  go_cut [5] from 29 to 65 (fun s wx => s = .pointer (some ⟨N + 1, 0, none⟩) ∧ Hid (wx = (W2.alloc (.cells (hdr dv (.slice none 0 0)) 39)).drew))
  case first =>
    go_region
    all_goals go_wp2_with fail
    all_goals go_meet
    all_goals refine ⟨rfl, ?_⟩
    all_goals rw [HL1.out]
    all_goals rfl
  case rest =>
  obtain ⟨rfl, hx⟩ := hcut
  clear c0 c1 c4 c5 c6 a0 a1 a4 a5 a6 o1 o3 o4 ha1 ha2 x00 x01 x10 x11 x40 x41 x50 x51 x60 x61 l0 l1 l4 l5 l6 l0' bL0 bL1 HL1 hlt2 hfl0 hfl1
  obtain ⟨R, hR⟩ : ∃ R : Nat, hRl dv = R := ⟨(hRl dv).toNat, by omega⟩
  have HR : Hid (hRl dv = R) := hR
  have hR7 : R ≤ 127 := by omega
  clear hR
  have HMS : Hid (MS w wc N dv n (8 + 4 * R) (8 + 4 * R) [] (.slice none 0 0) []) := by rw [hx.out]; exact ms_start hS2 HD2.out HZ1.out HB1.out
  have HBC : Hid (BsAt wc ad n dv 0) := HBW.out.keep HMS.out.below (by rw [HN.out]; exact Nat.le_refl _)
  clear hx hS2 HD2 HZ1 HB1 HS1 HBW HW1
  obtain ⟨d0, d1, d2, d3, d4, d5⟩ := HMS.out.facts
  go_upto_region 6 with fail
  by_cases hu : hNl dv = units (hTy dv) 24
  · have hne : ((hNl dv : Int) != ((units (hTy dv) 24 : Nat) : Int)) = false := by rw [hu]; simp
    have HU : Hid (hNl dv = units (hTy dv) 24) := hu
    clear hu
    go_quiet ((go_at_call 4; exact Calls.quiet_of (units_q (hTy dv) _ hT3)))
    obtain ⟨wq, HQ⟩ : ∃ wq, Hid (wq = wc.drewN nq) := ⟨_, rfl⟩
    rw [← HQ.out]
    have hbq : Below wc.heap.size wc wq := by rw [HQ.out]; exact below_drewN (Below.refl _ _) _
    have HMQ : Hid (MS w wq N dv n (8 + 4 * R) (8 + 4 * R) [] (.slice none 0 0) []) := HMS.out.keep hbq
    have HBQ : Hid (BsAt wq ad n dv 0) := HBC.out.keep hbq (Nat.le_refl _)
    clear d0 d1 d2 d3 d4 d5 HQ hbq HMS HBC
    obtain ⟨d0, d1, d2, d3, d4, d5⟩ := HMQ.out.facts
    obtain ⟨k0, k1, k2, k3, k4, k5, f0, f1, f2, f3, f4, f5⟩ := HMQ.out.room
    have q1 := cutL ad n c 8 8 rfl h8 hnc
    go_upto_region 10 with fail
    by_cases hfit : 4 * R ≤ n - 8
    · have hfit' : hRl dv * 4 ≤ ((n - 8 : Nat) : Int) := by have := HR.out; omega
      have q3 := cutL (cutA ad c 8) (n - 8) (c - 8) (4 * R) (hRl dv * 4) (by have := HR.out; omega) hfit (by omega)
      have HBS : Hid (BsAt wq (cutA (cutA ad c 8) (c - 8) (4 * R)) (n - 8 - 4 * R) dv (8 + 4 * R)) := by
        have h1 := HBQ.out.cut c 8 n h8 (Nat.le_refl _) hnc
        have h2 := h1.cut (c - 8) (4 * R) (n - 8) hfit (Nat.le_refl _) (by omega)
        rw [Nat.zero_add] at h2
        exact h2
      obtain ⟨adb, hadb⟩ : ∃ x, cutA (cutA ad c 8) (c - 8) (4 * R) = x := ⟨_, rfl⟩
      have hab2 : adb.block < N := by rw [← hadb, cutA_block, cutA_block]; have := HN.out; omega
      rw [hadb] at q3 HBS
      clear hadb
      obtain ⟨M, hM⟩ : ∃ M, n - 8 - 4 * R = M := ⟨_, rfl⟩
      have HM : Hid (n - 8 - 4 * R = M) := hM
      rw [hM] at q3 HBS
      have hMb : (M : Int) ≤ 2097152 := by omega
      have hcb : M ≤ c - 8 - 4 * R := by omega
      obtain ⟨cb, hcbe⟩ : ∃ x, c - 8 - 4 * R = x := ⟨_, rfl⟩
      rw [hcbe] at hcb q3
      clear hM hcbe
      go_upto_region 13 with fail
      clear q1 q3 hfit'
      have HREF : Hid (∀ ds b, Scan n (hTy dv) dv (8 + 4 * R) ds b → Says dv n ds b) := fun ds b h => .inr ⟨by
        rintro (h | h | h)
        · omega
        · exact h HU.out
        · rw [HR.out] at h; omega, by rw [HR.out]; exact h⟩
      by_cases hM0 : M = 0
      · subst hM0
        go_wp2_with fail
        (try simp only [Exit.inBlock, Exit.then])
        show bodyPost Ybaf.prog Ybaf.f7 (fun e w' => MOut w w' w.heap.size dv n e) _ _ _
        refine bodyPost_ret (results_cell_row_tmp (p := 2) (u := 3) (ty := 39) (by kernel_rfl) _ _ N 39 (hdr dv (.slice none 0 0)) (0, 0) _ _ rfl rfl (six_step HMQ.out.res _ _ _ _ _ _).par Ybaf.underlying39 rfl info39) rfl ?_
        rw [HN.out]
        exact HMQ.out.out h8 false (HREF.out _ _ (.inl ⟨rfl, by have := HM.out; omega⟩)) (six_step HMQ.out.res _ _ _ _ _ _)
      have hMne : ((M : Int) == 0) = false := by simp; omega
      have h22 := and_two (hTy dv) hT3
      obtain ⟨sb, hsb⟩ : ∃ b, tbit (hTy dv) 22 = b := ⟨_, rfl⟩
      have HSB : Hid (tbit (hTy dv) 22 = sb) := hsb
      have hs22 : (bits .and .u32 (hTy dv : Int) 2 != 0) = sb := by rw [h22, hsb]; cases sb <;> rfl
      clear h22
      go_upto_region 17 with fail
      by_cases hz : hNl dv = 0 ∧ sb = false
      · obtain ⟨hz1, rfl⟩ := hz
        have e0 : ((hNl dv : Int) * 4 == 0) = true := by rw [hz1]; rfl
        have HZ1 : Hid (hNl dv = 0) := hz1
        clear hsb hz1
        go_wp2_with fail
        (try simp only [Exit.inBlock, Exit.then])
        show bodyPost Ybaf.prog Ybaf.f7 (fun e w' => MOut w w' w.heap.size dv n e) _ _ _
        refine bodyPost_ret (results_cell_row_tmp (p := 2) (u := 3) (ty := 39) (by kernel_rfl) _ _ N 39 (hdr dv (.slice none 0 0)) (0, 0) _ _ rfl rfl (six_step HMQ.out.res _ _ _ _ _ _).par Ybaf.underlying39 rfl info39) rfl ?_
        rw [HN.out]
        exact HMQ.out.out h8 true (HREF.out _ _ (.inr ⟨rfl, by have := HM.out; omega, .inl ⟨by rw [← HU.out]; exact HZ1.out, HSB.out⟩⟩)) (six_step HMQ.out.res _ _ _ _ _ _)
      have HZ : Hid (¬ (units (hTy dv) 24 = 0 ∧ tbit (hTy dv) 22 = false)) := by rw [← HU.out, hsb]; exact hz
      have HE5 : Hid (((hNl dv : Int) * 4 == 0) = true → sb = true) := fun e => by
        cases sb
        · exact absurd ⟨by simp at e; omega, rfl⟩ hz
        · rfl
      clear hz hsb
      go_cut [105] from 100 to 105 (fun s wx => s = .bool false ∧ wx = wq)
      case first =>
        by_cases hu0 : hNl dv = 0
        · have e0 : ((hNl dv : Int) * 4 == 0) = true := by rw [hu0]; rfl
          have hst := HE5.out e0
          subst hst
          clear hu0
          go_wp2_with fail
          go_meet
          exact ⟨rfl, rfl⟩
        · have e0 : ((hNl dv : Int) * 4 == 0) = false := by simp; omega
          go_wp2_with fail
          go_meet
          exact ⟨rfl, rfl⟩
      case rest =>
      obtain ⟨rfl, hx⟩ := hcut
      replace hx := hx.symm
      subst hx
      go_upto_block 1 with fail
      clear HE5
      have HW0 : Hid (∃ (V : Value) (xs : List Value), MS w wq N dv n (8 + 4 * R) (8 + 4 * R + 0) [] V xs) := ⟨_, _, HMQ.out⟩
      have HBK : Hid (∀ W : World, Below N w W → BsAt W adb M dv (8 + 4 * R)) := fun W hW i hi => by
        have h1 := HBS.out i hi
        have h2 := (HMQ.out.below.cell (p := adb.add i) (by rw [add_block]; exact hab2)).symm.trans h1
        exact (hW.cell (by rw [add_block]; exact hab2)).trans h2
      obtain ⟨i34, hi34, hz340, hz341, hz342⟩ := info_parts inf34
      clear d0 d1 d2 d3 d4 d5 k0 k1 k2 k3 k4 k5 f0 f1 f2 f3 f4 f5 HBS HBQ
      go_wp2_with fail
      go_loopg [12, 13, 14] M (fun k p rst nd wr => ∃ (q : Nat) (ds : List Nat) (V : Value) (xs : List Value), k = M - q ∧ q ≤ M ∧ p = .int .i64 q ∧ Hid (MS w wr N dv n (8 + 4 * R) (8 + 4 * R + q) ds V xs))
      case atStart => exact ⟨0, [], _, _, rfl, by omega, rfl, HMQ⟩
      case round =>
        clear HMQ HW0
        obtain ⟨q, ds, V, xs, rfl, hqM, rfl, HL⟩ := hrel
        obtain ⟨pV, cV, rfl⟩ := own_form HL.out.own
        obtain ⟨d0, d1, d2, d3, d4, d5⟩ := HL.out.facts
        obtain ⟨k0, k1, k2, k3, k4, k5, f0, f1, f2, f3, f4, f5⟩ := HL.out.room
        by_cases hq : q < M
        · have hq' : (q : Int) < (M : Int) := by omega
          have HBW := HBK.out wr HL.out.below
          have HBR : Hid (BsAt wr adb M dv (8 + 4 * R)) := HBW
          clear HBW
          go_upto_if 116 with fail
          by_cases hsf : sb = true ∧ M - q ≤ 4 * hNl dv
          · obtain ⟨rfl, hsf⟩ := hsf
            have hsf' : (M : Int) - (q : Int) ≤ (hNl dv : Int) * 4 := by omega
            have HBAD : Hid (bad n (hTy dv) dv (8 + 4 * R + q)) := .inr (.inl ⟨HSB.out, by have := HU.out; have := HM.out; omega⟩)
            go_wp2_with fail
            (try simp only [Exit.inBlock, Exit.then])
            show bodyPost Ybaf.prog Ybaf.f7 (fun e w' => MOut w w' w.heap.size dv n e) _ _ _
            refine bodyPost_ret (results_cell_row_tmp (p := 2) (u := 3) (ty := 39) (by kernel_rfl) _ _ N 39 (hdr dv (.slice pV ds.length cV)) (0, 0) _ _ rfl rfl (six_step HL.out.res _ _ _ _ _ _).par Ybaf.underlying39 rfl info39) rfl ?_
            rw [HN.out]
            exact HL.out.out h8 true (HREF.out _ _ (by have h := HL.out.scan [] true (.inr ⟨rfl, by have := HM.out; omega, HBAD.out⟩); rw [List.append_nil] at h; exact h)) (six_step HL.out.res _ _ _ _ _ _)
          · obtain ⟨W, hW⟩ : ∃ W, need (hTy dv) dv (8 + 4 * R + q) = W := ⟨_, rfl⟩
            have HW : Hid (need (hTy dv) dv (8 + 4 * R + q) = W) := hW
            have hUW : 4 * hNl dv ≤ W := by rw [← hW]; unfold need; have := HU.out; omega
            clear hW
            go_cut [14] from 107 to 159 (fun s wx => s = .int .i64 (W : Int) ∧ wx = wr)
            case first =>
              have hWe := HW.out
              unfold need at hWe
              rw [HSB.out, ← HU.out] at hWe
              cases sb
              · go_wp2_with fail
                go_meet
                refine ⟨?_, rfl⟩
                rw [← hWe]
                simp
                omega
              · have hf : 4 * hNl dv < M - q := by
                  rcases Nat.lt_or_ge (4 * hNl dv) (M - q) with h | h
                  · exact h
                  · exact absurd ⟨rfl, h⟩ hsf
                have hf' : ¬ (M : Int) - (q : Int) ≤ (hNl dv : Int) * 4 := by omega
                have hf2 : (q : Int) + (hNl dv : Int) * 4 < (M : Int) := by omega
                have hcb := HBR.out (q + hNl dv * 4) (by omega)
                have hV := hd (8 + 4 * R + q + 4 * hNl dv)
                rw [show 8 + 4 * R + (q + hNl dv * 4) = 8 + 4 * R + q + 4 * hNl dv by omega] at hcb
                rw [if_pos rfl] at hWe
                generalize dv (8 + 4 * R + q + 4 * hNl dv) = Vb at hV hWe hcb
                obtain ⟨hV0, hV1⟩ := hV
                have HWe : Hid (4 * hNl dv + (4 + 4 * Vb.toNat) = W) := hWe
                clear hWe
                go_wp2_with fail
                go_meet
                refine ⟨?_, rfl⟩
                rw [← HWe.out]
                simp
                omega
            case rest =>
            obtain ⟨rfl, hx⟩ := hcut
            replace hx := hx.symm
            subst hx
            by_cases hfit : W ≤ M - q
            · have hfit' : (W : Int) ≤ (M : Int) - (q : Int) := by omega
              have HBAD : Hid (¬ bad n (hTy dv) dv (8 + 4 * R + q)) := by
                rintro (h | h | h)
                · exact HZ.out h
                · exact hsf ⟨by rw [← HSB.out]; exact h.1, by have := h.2; have := HU.out; have := HM.out; omega⟩
                · rw [HW.out] at h; have := HM.out; omega
              have hW4 : 4 ≤ W := by have h := (need_ge HBAD.out).1; rw [HW.out] at h; exact h
              go_upto_region 29 with fail
              have hdb : ds.length ≤ 1000000 := by have := HL.out.few; have := HM.out; omega
              have HLQ : Hid (MS w wr.drew N dv n (8 + 4 * R) (8 + 4 * R + q) ds (.slice pV ds.length cV) xs) := HL.out.keep (Below.refl _ _).drew
              have HLS : Hid (N + 2 ≤ wr.heap.size) := HL.out.size
              have hlt5 : N + 1 < wr.heap.size := by have := HL.out.size; omega
              have q1 := cutLH adb M cb q (q + 4 * hNl dv) q ((q : Int) + (hNl dv : Int) * 4) rfl (by omega) (by omega) (by omega)
              rw [Nat.add_sub_cancel_left] at q1
              have q2 := cutLH adb M cb (q + 4 * hNl dv) (q + W) ((q : Int) + (hNl dv : Int) * 4) ((q : Int) + (W : Int)) (by omega) (by omega) (by omega) (by omega)
              rw [show q + W - (q + 4 * hNl dv) = W - 4 * hNl dv by omega] at q2
              have hb1 : BsAt wr.drew (cutA adb cb q) (4 * hNl dv) dv (8 + 4 * R + q) := by
                have h := HBR.out.cut cb q (q + 4 * hNl dv) (by omega) (by omega) hcb
                rw [Nat.add_sub_cancel_left] at h
                exact h
              have hb2 : BsAt wr.drew (cutA adb cb (q + 4 * hNl dv)) (W - 4 * hNl dv) dv (8 + 4 * R + q + 4 * hNl dv) := by
                have h := HBR.out.cut cb (q + 4 * hNl dv) (q + W) (by omega) (by omega) hcb
                rw [show q + W - (q + 4 * hNl dv) = W - 4 * hNl dv by omega, ← Nat.add_assoc] at h
                exact h
              have hcal := mnode_calls (hTy dv) hT3 (cutA adb cb q) (4 * hNl dv) (cb - q) (8 + 4 * R + q) (cutA adb cb (q + 4 * hNl dv)) (W - 4 * hNl dv) (cb - (q + 4 * hNl dv)) (8 + 4 * R + q + 4 * hNl dv) dv wr.drew hd hb1 hb2 (by omega) (by omega) (by rw [HU.out]; exact Nat.le_refl _)
                (fun e => by have h := HW.out; unfold need at h; rw [if_pos e, ← HU.out] at h; omega) (by rw [cutA_block]; show _ < wr.heap.size; omega) (by rw [cutA_block]; show _ < wr.heap.size; omega)
              have HCAL : Hid (Calls Ybaf.prog 12 _ _ _) := hcal
              have HB2 : Hid (BsAt wr.drew (cutA adb cb (q + 4 * hNl dv)) (W - 4 * hNl dv) dv (8 + 4 * R + q + 4 * hNl dv)) := hb2
              have w1 : IntKind.i64.wrap ((q : Int) + (hNl dv : Int) * 4) = (q : Int) + (hNl dv : Int) * 4 := by rw [IntKind.wrap_i64]; omega
              have w2 : IntKind.i64.wrap ((q : Int) + (W : Int)) = (q : Int) + (W : Int) := by rw [IntKind.wrap_i64]; omega
              clear hcal hb1 hb2 d0 d1 d2 d3 d4 k0 k1 k2 k3 k4 k5 f0 f1 f2 f3 f4 f5
              go_region_law (first
                | (refine at_app rfl ?_; refine step_append_lies _ rfl (.tmp 137) (.tmp 154) 27 rfl (N + 2) 34 i34 (.agg z19) 19 184 Ybaf.underlying27 hi34 hz340 hz341 hz342 rfl (by decide) (.slice pV ds.length cV) ds.length xs rfl (HV6.out.alloc _) ⟨w6.heap.size, 0, none⟩ 1 1 RF.toList rfl HRL.out (World.news_of_block (cs := RF) (heap_alloc_new _ _)) HR1.out (by omega) (by unfold maxLen; omega) (by omega) HBA.out _ rfl ?_; intro g cap w8 hown hgrow hat hltg; have HG : Hid (w8.ownsRow (N + 2) 34 19 (.slice (some ⟨g, 0, none⟩) (ds.length + 1) cap) (ds.length + 1) (xs ++ RF.toList) ∧ (w6.alloc (.cells RF 34)).grownBy w8 (Value.slice pV ds.length cV).ownBlock ∧ ((Value.slice pV ds.length cV).ownBlock = some g ∨ g = (w6.alloc (.cells RF 34)).heap.size)) := ⟨hown, hgrow, hat⟩; obtain ⟨d58, f58, _⟩ := HLQ.out.five HB6.out.2 ((Below.refl _ _).alloc (Nat.le_refl _) (.cells RF 34)) hgrow; clear hown hgrow hat hltg)
                | (go_simp; go_at_call 12; refine HCAL.out.mono ?_; rintro e' w6 ⟨U', rfl, hown6, hb6⟩; have hn1 := nrow_one (T := hTy dv) (dv := dv) (p := 8 + 4 * R + q) (ps := 8 + 4 * R + q + 4 * hNl dv) (a := some (cutA (cutA adb cb (q + 4 * hNl dv)) (cb - (q + 4 * hNl dv)) 4)) (n := W - 4 * hNl dv - 4) (c := cb - (q + 4 * hNl dv) - 4) (own_cell hown6); have hn2 := nrow_size z19 0 (hTy dv) dv (8 + 4 * R + q) (8 + 4 * R + q + 4 * hNl dv) (.slice (some (cutA (cutA adb cb (q + 4 * hNl dv)) (cb - (q + 4 * hNl dv)) 4)) (W - 4 * hNl dv - 4) (cb - (q + 4 * hNl dv) - 4)) U'; generalize hRF : nrow z19 0 (hTy dv) dv (8 + 4 * R + q) (8 + 4 * R + q + 4 * hNl dv) (.slice (some (cutA (cutA adb cb (q + 4 * hNl dv)) (cb - (q + 4 * hNl dv)) 4)) (W - 4 * hNl dv - 4) (cb - (q + 4 * hNl dv) - 4)) U' = RF at hn1 hn2 ⊢; have HRF : Hid (_ = RF) := hRF; have HRL : Hid (RF.toList.length = 1 * 19) := (by show _ = _; rw [Array.length_toList, hn2]; rfl); have HR1 : Hid (∀ u ∈ RF.toList, u.oneCell' = true) := one_list hn1; have HB6 : Hid (w6.ownsRow wr.heap.size 23 1 U' (und (hTy dv) dv (8 + 4 * R + q + ssum (hTy dv) 16) 10).length ((und (hTy dv) dv (8 + 4 * R + q + ssum (hTy dv) 16) 10).map (Value.int .u32)) ∧ Below wr.drew.heap.size wr.drew w6) := ⟨hown6, hb6⟩; have HV6 : Hid (w6.ownsRow (N + 2) 34 19 (.slice pV ds.length cV) ds.length xs) := own_below HLQ.out.own hb6 (Nat.le_refl _); have hs6 : wr.heap.size ≤ w6.heap.size := hb6.size; have HBA : Hid (N + 2 ≤ (w6.alloc (.cells RF 34)).heap.size) := Nat.le_trans (Nat.le_trans HLS.out hs6) (alloc_le _ _); have hlt6 : N + 1 < w6.heap.size := Nat.lt_of_lt_of_le hlt5 hs6; have hn19 : RF.size = 19 := hn2; have hfold : Array.foldl (fun (cs : Array Value) (x : Value × Nat) => cs.setIfInBounds x.snd x.fst) z19 RF.zipIdx 0 19 = RF := fold_row hn2.symm hn2.symm; have d56 : w6.cell? ⟨N + 1, 5, none⟩ = some (.slice pV ds.length cV) := (hb6.cell (p := ⟨N + 1, 5, none⟩) hlt5).trans d5; clear hown6 hb6 hn1 hn2 hRF hs6))
              all_goals go_wp2_with fail
              all_goals
              go_roundg (M - (q + W))
              case measure => omega
              case rel =>
              refine ⟨q + W, ds ++ [8 + 4 * R + q], .slice (some ⟨g, 0, none⟩) (ds.length + 1) cap, xs ++ RF.toList, rfl, by omega, by go_num, ?_⟩
              have hRF : RF = nrow z19 0 (hTy dv) dv (8 + 4 * R + q) (8 + 4 * R + q + 4 * units (hTy dv) 24) (.slice (some (cutA (cutA adb cb (q + 4 * hNl dv)) (cb - (q + 4 * hNl dv)) 4)) (need (hTy dv) dv (8 + 4 * R + q) - 4 * units (hTy dv) 24 - 4) (cb - (q + 4 * hNl dv) - 4)) U' := by
                rw [← HU.out, HW.out]
                exact HRF.out.symm
              have hdat : tbit (hTy dv) 22 = true → BsAt wr.drew (cutA (cutA adb cb (q + 4 * hNl dv)) (cb - (q + 4 * hNl dv)) 4) (need (hTy dv) dv (8 + 4 * R + q) - 4 * units (hTy dv) 24 - 4) dv (8 + 4 * R + q + 4 * units (hTy dv) 24 + 4) := fun e => by
                have h4 : 4 ≤ W - 4 * hNl dv := by have h := HW.out; unfold need at h; rw [if_pos e, ← HU.out] at h; omega
                have h := HB2.out.cut (cb - (q + 4 * hNl dv)) 4 (W - 4 * hNl dv) h4 (Nat.le_refl _) (by omega)
                rw [← HU.out, HW.out]
                exact h
              have hp := HLQ.out.push (by have := HM.out; omega) HBAD.out HB6.out.2 ((Below.refl _ _).alloc (Nat.le_refl _) (.cells RF 34)) (by simp) HG.out.2.1 hRF HB6.out.1 hdat (by rw [cutA_block, cutA_block]; exact hab2) HG.out.1 HG.out.2.2
              rw [HW.out, Nat.add_assoc] at hp
              exact hp
            · have hfit' : ¬ (W : Int) ≤ (M : Int) - (q : Int) := by omega
              have HBAD : Hid (bad n (hTy dv) dv (8 + 4 * R + q)) := .inr (.inr (by rw [HW.out]; have := HM.out; omega))
              go_wp2_with fail
              (try simp only [Exit.inBlock, Exit.then])
              show bodyPost Ybaf.prog Ybaf.f7 (fun e w' => MOut w w' w.heap.size dv n e) _ _ _
              refine bodyPost_ret (results_cell_row_tmp (p := 2) (u := 3) (ty := 39) (by kernel_rfl) _ _ N 39 (hdr dv (.slice pV ds.length cV)) (0, 0) _ _ rfl rfl (six_step HL.out.res _ _ _ _ _ _).par Ybaf.underlying39 rfl info39) rfl ?_
              rw [HN.out]
              exact HL.out.out h8 true (HREF.out _ _ (by have h := HL.out.scan [] true (.inr ⟨rfl, by have := HM.out; omega, HBAD.out⟩); rw [List.append_nil] at h; exact h)) (six_step HL.out.res _ _ _ _ _ _)
        · have hq' : ¬ (q : Int) < (M : Int) := by omega
          go_wp2_with fail
          (try simp only [Exit.inBlock, Exit.then])
          show bodyPost Ybaf.prog Ybaf.f7 (fun e w' => MOut w w' w.heap.size dv n e) _ _ _
          refine bodyPost_ret (results_cell_row_tmp (p := 2) (u := 3) (ty := 39) (by kernel_rfl) _ _ N 39 (hdr dv (.slice pV ds.length cV)) (0, 0) _ _ rfl rfl (six_step HL.out.res _ _ _ _ _ _).par Ybaf.underlying39 rfl info39) rfl ?_
          rw [HN.out]
          exact HL.out.out h8 false (HREF.out _ _ (by have h := HL.out.scan [] false (.inl ⟨rfl, by have := HM.out; omega⟩); rw [List.append_nil] at h; exact h)) (six_step HL.out.res _ _ _ _ _ _)
    · have hfit' : ¬ hRl dv * 4 ≤ ((n - 8 : Nat) : Int) := by have := HR.out; omega
      go_wp2_with fail
      (try simp only [Exit.inBlock, Exit.then])
      show bodyPost Ybaf.prog Ybaf.f7 (fun e w' => MOut w w' w.heap.size dv n e) _ _ _
      refine bodyPost_ret (results_cell_row_tmp (p := 2) (u := 3) (ty := 39) (by kernel_rfl) _ _ N 39 (hdr dv (.slice none 0 0)) (0, 0) _ _ rfl rfl (six_step HMQ.out.res _ _ _ _ _ _).par Ybaf.underlying39 rfl info39) rfl ?_
      rw [HN.out]
      exact HMQ.out.out h8 true (.inl ⟨.inr (.inr (by rw [HR.out]; omega)), rfl, rfl⟩) (six_step HMQ.out.res _ _ _ _ _ _)
  · have hne : ((hNl dv : Int) != ((units (hTy dv) 24 : Nat) : Int)) = true := by simp; omega
    have HU : Hid (¬ hNl dv = units (hTy dv) 24) := hu
    clear hu
    go_quiet ((go_at_call 4; exact Calls.quiet_of (units_q (hTy dv) _ hT3)))
    obtain ⟨wq, HQ⟩ : ∃ wq, Hid (wq = wc.drewN nq) := ⟨_, rfl⟩
    rw [← HQ.out]
    have hbq : Below wc.heap.size wc wq := by rw [HQ.out]; exact below_drewN (Below.refl _ _) _
    have HMQ : Hid (MS w wq N dv n (8 + 4 * R) (8 + 4 * R) [] (.slice none 0 0) []) := HMS.out.keep hbq
    clear d0 d1 d2 d3 d4 d5 HQ hbq HMS HBC
    obtain ⟨d0, d1, d2, d3, d4, d5⟩ := HMQ.out.facts
    obtain ⟨k0, k1, k2, k3, k4, k5, f0, f1, f2, f3, f4, f5⟩ := HMQ.out.room
    go_wp2_with fail
    (try simp only [Exit.inBlock, Exit.then])
    show bodyPost Ybaf.prog Ybaf.f7 (fun e w' => MOut w w' w.heap.size dv n e) _ _ _
    refine bodyPost_ret (results_cell_row_tmp (p := 2) (u := 3) (ty := 39) (by kernel_rfl) _ _ N 39 (hdr dv (.slice none 0 0)) (0, 0) _ _ rfl rfl (six_step HMQ.out.res _ _ _ _ _ _).par Ybaf.underlying39 rfl info39) rfl ?_
    rw [HN.out]
    exact HMQ.out.out h8 true (.inl ⟨.inr (.inl HU.out), rfl, rfl⟩) (six_step HMQ.out.res _ _ _ _ _ _)
end Go.Proofs.YbulkdycwFmt
