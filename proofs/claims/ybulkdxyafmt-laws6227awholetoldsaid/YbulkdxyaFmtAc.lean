/- countComponents on hosts without links: by contract. -/
import Derived.Test.YbulkdxyaFmtAm
import Derived.Test.YbulkdxyaFmtLs
namespace Go.Proofs.YbulkdxyaFmt
open Go.RowKit
set_option linter.unusedSimpArgs false
set_option linter.unusedVariables false

/-- A host whose node has no members and no fingers. -/
structure Good (w : World) (h : Nat) : Prop where
  ex : ∃ hc N R, w.heap[h]? = some (.cells hc 55 (0, 0)) ∧ hc[1]? = some (.pointer (some ⟨N, 0, none⟩)) ∧ w.heap[N]? = some (.cells R 97 (0, 0)) ∧ R[16]? = some (.slice none 0 0) ∧ R[251]? = some (.slice none 0 0)
theorem Good.keepB {w w' : World} {h : Nat} (hg : Good w h) (hk : ∀ (j : Nat) (cs : Array Value) (t : TypeId), w.heap[j]? = some (.cells cs t (0, 0)) → t = 55 ∨ t = 97 → w'.heap[j]? = w.heap[j]?) : Good w' h := by
  obtain ⟨hc, N, R, h1, h2, h3, h4⟩ := hg.ex
  exact ⟨hc, N, R, (hk _ _ _ h1 (.inl rfl)).trans h1, h2, (hk _ _ _ h3 (.inr rfl)).trans h3, h4⟩
theorem Good.keep {w w' : World} {h : Nat} (hg : Good w h) (hb : Below w.heap.size w w') : Good w' h :=
  hg.keepB fun j cs t hj _ => hb.block j (Array.getElem?_eq_some_iff.1 hj).1

set_option maxRecDepth 100000 in
theorem clone_nil (w : World) : Calls Ybaf.prog 9 #[.slice none 0 0] w fun e w' => e = .returned (.slice none 0 0) ∧ w = w' := by
  have q0 : ∀ w : World, (binOp BinOp.eql 43 (.slice none 0 0) (.slice none 0 0)).run Ybaf.prog w = .ok (.bool true) w := fun w => by kernel_rfl
  go_enter Ybaf.func9, Ybaf.ntmps9
  go_wp2_with fail
  go_ret
  exact ⟨rfl, rfl⟩
set_option maxRecDepth 100000 in
theorem leafset_calls (N : Nat) (w : World) (c16 : w.cell? ⟨N, 16, none⟩ = some (.slice none 0 0)) : Calls Ybaf.prog 12 #[.pointer (some ⟨N, 0, none⟩)] w fun e w' => e = .returned (.slice none 0 0) ∧ w = w' := by
  have HC : Hid (Calls Ybaf.prog 9 _ w _) := clone_nil w
  go_enter Ybaf.func12, Ybaf.ntmps12
  go_wp2_with (go_at_call 9; refine HC.out.mono ?_; rintro e' w' ⟨rfl, rfl⟩)
  go_ret
  exact ⟨rfl, rfl⟩
set_option maxRecDepth 100000 in
theorem fingers0_calls (N : Nat) (w : World) (c251 : w.cell? ⟨N, 251, none⟩ = some (.slice none 0 0)) : Calls Ybaf.prog 13 #[.pointer (some ⟨N, 0, none⟩)] w fun e w' => ∃ g, e = .returned (.slice (some ⟨g, 0, none⟩) 0 0) ∧ Below w.heap.size w w' := by
  have mk := make43
  have hN : N < w.heap.size := lt_of_cell c251
  go_enter Ybaf.func13, Ybaf.ntmps13
  go_wp2_with fail
  go_loopg [4, 5, 17] 0 (fun k x y i wr => k = 0 ∧ i = .int .i64 0 ∧ wr = w.alloc (.cells #[] 50))
  case atStart => exact ⟨rfl, rfl, rfl⟩
  case round =>
    obtain ⟨rfl, rfl, rfl⟩ := hrel
    go_wp2_with fail
    go_ret
    exact ⟨w.heap.size, rfl, (Below.refl _ _).alloc (Nat.le_refl _) _⟩

/-- The world that the hosts live in. -/
structure WS (w : World) (Wb M : Nat) (Wc : Array Value) (hm : Int → Option Nat) (rp : Option Addr) (n c : Nat) (xs : Nat → Int) : Prop where
  wld : w.heap[Wb]? = some (.cells Wc 47 (0, 0))
  hosts : Wc[27]? = some (.map (some M))
  ringc : Wc[29]? = some (.slice rp n c)
  map : MM w M hm
  ring : OV w rp n xs
  good : ∀ i, i < n → ∃ h, hm (xs i) = some h ∧ Good w h
  le : n ≤ 4096
theorem WS.keep {w w' : World} {Wb M : Nat} {Wc : Array Value} {hm : Int → Option Nat} {rp : Option Addr} {n c : Nat} {xs : Nat → Int} (h : WS w Wb M Wc hm rp n c xs) (hb : Below w.heap.size w w') : WS w' Wb M Wc hm rp n c xs :=
  ⟨(hb.block Wb (Array.getElem?_eq_some_iff.1 h.wld).1).trans h.wld, h.hosts, h.ringc, h.map.keep (hb.block M h.map.lt), h.ring.keep hb, fun i hi => by obtain ⟨q, h1, h2⟩ := h.good i hi; exact ⟨q, h1, h2.keep hb⟩, h.le⟩

theorem append_none (g : Nat) (w : World) : (Builtin.append_ #[43, 43] 43 #[.slice none 0 0, .slice (some ⟨g, 0, none⟩) 0 0]).run Ybaf.prog w = .ok (.slice none 0 0) w := by kernel_rfl

set_option maxRecDepth 100000 in
set_option maxHeartbeats 4000000 in
theorem links_calls (i bx : Nat) (w : World) {Wb M : Nat} {Wc : Array Value} {hm : Int → Option Nat} {rp : Option Addr} {n c : Nat} {xs : Nat → Int} (h : WS w Wb M Wc hm rp n c xs) (hi : i < n) (hx : w.cell? ⟨bx, 0, none⟩ = some (.pointer (some ⟨Wb, 0, none⟩))) :
    Calls Ybaf.prog 21 #[.int .i64 i, .pointer (some ⟨bx, 0, none⟩)] w fun e w' => ∃ p c, e = .returned (.slice p 0 c) ∧ Below w.heap.size w w' := by
  obtain ⟨q, hq, hc, N, R, g1, g2, g3, g4, g5⟩ : ∃ q, hm (xs i) = some q ∧ ∃ hc N R, w.heap[q]? = some (.cells hc 55 (0, 0)) ∧ hc[1]? = some (.pointer (some ⟨N, 0, none⟩)) ∧ w.heap[N]? = some (.cells R 97 (0, 0)) ∧ R[16]? = some (.slice none 0 0) ∧ R[251]? = some (.slice none 0 0) := by
    obtain ⟨q, h1, h2⟩ := h.good i hi
    exact ⟨q, h1, h2.ex⟩
  have hl := look_host (h.map.keep (w' := w.drew) rfl) (xs i)
  rw [hq] at hl
  have c27 : w.cell? ⟨Wb, 27, none⟩ = some (.map (some M)) := cell_of h.wld h.hosts
  have c29 : w.cell? ⟨Wb, 29, none⟩ = some (.slice rp n c) := cell_of h.wld h.ringc
  have q1 : w.cell? ⟨q, 1, none⟩ = some (.pointer (some ⟨N, 0, none⟩)) := cell_of g1 g2
  obtain ⟨ad, hrp, hcell⟩ := h.ring (by omega)
  subst hrp
  have d := hcell i hi
  have hi' : (i : Int) < (n : Int) := by omega
  have HN : Hid (w.heap[N]? = some (.cells R 97 (0, 0)) ∧ R[16]? = some (.slice none 0 0) ∧ R[251]? = some (.slice none 0 0)) := ⟨g3, g4, g5⟩
  have hap := append_none
  clear h hcell g1 g2 g3 g4 g5 hq
  simp only [Option.map_some] at hl
  go_enter Ybaf.func21, Ybaf.ntmps21
  go_upto_region 1 with fail
  go_cut [4] from 5 to 19 (fun x wx => x = .pointer (some ⟨N, 0, none⟩) ∧ Hid (Below w.heap.size w wx))
  case first =>
    go_region
    all_goals go_wp2_with fail
    all_goals go_meet
    all_goals exact ⟨rfl, (Below.refl _ _).drew⟩
  case rest =>
  obtain ⟨rfl, HB⟩ := hcut
  have hN2 : wc.heap[N]? = some (.cells R 97 (0, 0)) := (HB.out.block N (Array.getElem?_eq_some_iff.1 HN.out.1).1).trans HN.out.1
  have HL : Hid (Calls Ybaf.prog 12 _ wc _) := leafset_calls N wc (cell_of hN2 HN.out.2.1)
  have HF : Hid (Calls Ybaf.prog 13 _ wc _) := fingers0_calls N wc (cell_of hN2 HN.out.2.2)
  clear hN2 hl
  go_wp2_with (first
    | (go_at_call 12; refine HL.out.mono ?_; rintro e' w' ⟨rfl, rfl⟩)
    | (go_at_call 13; refine HF.out.mono ?_; rintro e' w3 ⟨g, rfl, hb3⟩; have HB3 : Hid (Below wc.heap.size wc w3) := hb3; clear hb3))
  go_ret
  exact ⟨none, 0, rfl, HB.out.trans (HB3.out.mono HB.out.size)⟩

/-- The row of parents in the filling. -/
structure PV (w : World) (P n : Nat) : Prop where
  ex : ∃ cs, w.heap[P]? = some (.cells cs 3 (0, 0)) ∧ cs.size = n ∧ ∀ i, i < n → ∃ v, cs[i]? = some (.int .i64 v)
theorem inf3 : (Ybaf.prog.info? 3).map (fun i => (i.zero, i.size, i.bytes)) = some (some (.int .i64 0), 1, 8) := by kernel_rfl
theorem make_ints (n : Nat) (hn : n ≤ 4096) (W : World) : (Instr.makeSlice 39 (.int .i64 (n : Int)) (.int .i64 (n : Int))).run Ybaf.prog W = .ok (.slice (some ⟨W.heap.size, 0, none⟩) n n) (W.alloc (.cells (madeCells #[.int .i64 0] n) 3)) := by
  obtain ⟨i3, hi3, hz0, hz1, hz2⟩ := info_parts inf3
  exact run_make_row (P := Ybaf.prog) 39 3 i3 (.int .i64 0) Ybaf.underlying39 hi3 hz0 hz1 rfl .i64 .i64 n (by rw [show i3.bytes = 8 from hz2]; omega) (by omega) W
theorem cells_of {cs : Array Value} {i n : Nat} (hs : cs.size = n) (hi : i < n) : ∃ v, cs[i]? = some v := ⟨_, Array.getElem?_eq_getElem (by omega)⟩

set_option maxRecDepth 100000 in
set_option maxHeartbeats 4000000 in
theorem components_calls (bx : Nat) (w : World) {Wb M : Nat} {Wc : Array Value} {hm : Int → Option Nat} {rp : Option Addr} {n c : Nat} {xs : Nat → Int} (h : WS w Wb M Wc hm rp n c xs) (hx : w.cell? ⟨bx, 0, none⟩ = some (.pointer (some ⟨Wb, 0, none⟩))) :
    Calls Ybaf.prog 20 #[.slice rp n c, .func (.func 21) #[] #[.pointer (some ⟨bx, 0, none⟩)]] w fun e w' => e = .returned (.int .i64 n) ∧ Below w.heap.size w w' := by
  have hn := h.le
  have HLk : Hid (∀ (i : Nat) (W : World), i < n → Below w.heap.size w W → Calls Ybaf.prog 21 #[.int .i64 i, .pointer (some ⟨bx, 0, none⟩)] W fun e w' => ∃ p c, e = .returned (.slice p 0 c) ∧ Below W.heap.size W w') := fun i W hi hb => links_calls i bx W (h.keep hb) hi ((hb.cell (lt_of_cell hx)).trans hx)
  have hmk := make_ints n hn
  obtain ⟨P, hP⟩ : ∃ P, w.heap.size = P := ⟨_, rfl⟩
  have HP : Hid (w.heap.size = P) := hP
  obtain ⟨w1, HW1⟩ : ∃ W : World, Hid (W = (w.alloc (.cells (madeCells #[.int .i64 0] n) 3)).alloc (.cells #[.slice (some ⟨P, 0, none⟩) n n] 39)) := ⟨_, rfl⟩
  have H1 : Hid ((∃ cs, w1.heap[P]? = some (.cells cs 3 (0, 0)) ∧ cs.size = n) ∧ w1.heap[P + 1]? = some (.cells #[.slice (some ⟨P, 0, none⟩) n n] 39 (0, 0)) ∧ Below P w w1) := by
    rw [HW1.out]
    refine ⟨⟨_, (Below.heap_alloc _ _ _ (by simp; omega)).trans (new_at hP.symm), size_madeCells _ _⟩, new_at (by simp [hP]), ((Below.refl _ _).alloc (by omega) _).alloc (by simp; omega) _⟩
  clear h hx hP
  go_enter Ybaf.func20, Ybaf.ntmps20
  go_upto_region 2 with fail
  rw [HP.out, ← HW1.out]
  clear hmk HW1
  have p1 : w1.cell? ⟨P + 1, 0, none⟩ = some (.slice (some ⟨P, 0, none⟩) n n) := cell_of H1.out.2.1 rfl
  go_upto_block 0 with fail
  clear p1
  go_cut [6] from 21 to 28 (fun x wx => Hid (Below P w wx))
  case first =>
    go_wp2_with fail
    go_loopg [6, 21] n (fun g x i wr => ∃ j : Nat, g = n - j ∧ j ≤ n ∧ i = .int .i64 j ∧ Hid ((∃ cs, wr.heap[P]? = some (.cells cs 3 (0, 0)) ∧ cs.size = n) ∧ wr.heap[P + 1]? = some (.cells #[.slice (some ⟨P, 0, none⟩) n n] 39 (0, 0)) ∧ Below P w wr))
    case atStart => exact ⟨0, rfl, by omega, rfl, H1⟩
    case round =>
      clear H1
      obtain ⟨j, rfl, hj, rfl, HJ⟩ := hrel
      by_cases hjl : j < n
      · have hjl' : (j : Int) < (n : Int) := by omega
        obtain ⟨⟨cs, k1, k2⟩, k3, k4⟩ := HJ.out
        obtain ⟨u, hu⟩ := cells_of k2 hjl
        have p1 : wr.cell? ⟨P + 1, 0, none⟩ = some (.slice (some ⟨P, 0, none⟩) n n) := cell_of k3 rfl
        have p0 : wr.cell? ⟨P, j, none⟩ = some u := cell_of k1 hu
        have f0 : wr.frozen? ⟨P, j, none⟩ = false := frozen_of k1
        clear k1 k2 k3 k4 hu
        go_wp2_with fail
        go_roundg (n - (j + 1))
        case measure => omega
        case rel =>
          obtain ⟨⟨cs, k1, k2⟩, k3, k4⟩ := HJ.out
          exact ⟨j + 1, rfl, by omega, by go_num, ⟨_, heap_setCell_same wr P j cs 3 _ k1, by simp [k2]⟩, (Below.heap_setCell _ _ _ _ (show P + 1 ≠ P by omega)).trans k3, k4.setCell (p := ⟨P, j, none⟩) (Nat.le_refl _) _⟩
      · obtain rfl : n = j := by omega
        go_wp2_with fail
        go_meet
        exact HJ.out.2.2
  case rest =>
  have HB : Hid (Below P w wc) := hcut
  clear hcut H1
  go_wp2_with fail
  go_loopg [8, 9, 11, 12, 13, 14, 15, 34] n (fun g x0 x1 x2 x3 x4 x5 x6 i wr => ∃ j : Nat, g = n - j ∧ j ≤ n ∧ i = .int .i64 j ∧ x0 = .int .i64 n ∧ Hid (Below P w wr))
  case atStart => exact ⟨0, rfl, by omega, rfl, rfl, HB⟩
  case round =>
    clear HB
    obtain ⟨j, rfl, hj, rfl, rfl, HB⟩ := hrel
    by_cases hjl : j < n
    · have hjl' : (j : Int) < (n : Int) := by omega
      have HC : Hid (Calls Ybaf.prog 21 _ wr _) := HLk.out j wr hjl (by rw [HP.out]; exact HB.out)
      go_wp2_with (go_at_call 21; refine HC.out.mono ?_; rintro e' w3 ⟨p, c', rfl, hb3⟩; have HB3 : Hid (Below P w w3) := HB.out.trans (hb3.mono (by have := HB.out.size; have := HP.out; omega)); clear hb3)
      go_loopg [8, 11, 12, 13, 14, 15, 41] 0 (fun g x0 x2 x3 x4 x5 x6 i wr => g = 0 ∧ i = .int .i64 0 ∧ x0 = .int .i64 n ∧ wr = w3)
      case atStart => exact ⟨rfl, rfl, rfl, rfl⟩
      case round =>
        obtain ⟨rfl, rfl, rfl, rfl⟩ := hrel
        go_wp2_with fail
        go_roundg (n - (j + 1))
        case measure => omega
        case rel => exact ⟨j + 1, rfl, by omega, by go_num, rfl, HB3⟩
    · obtain rfl : n = j := by omega
      go_wp2_with fail
      go_ret
      exact ⟨rfl, by rw [HP.out]; exact HB.out⟩

set_option maxRecDepth 100000 in
set_option maxHeartbeats 4000000 in
theorem count_calls (w : World) {Wb M : Nat} {Wc : Array Value} {hm : Int → Option Nat} {rp : Option Addr} {n c : Nat} {xs : Nat → Int} (h : WS w Wb M Wc hm rp n c xs) :
    Calls Ybaf.prog 10 #[.pointer (some ⟨Wb, 0, none⟩)] w fun e w' => e = .returned (.int .i64 n) ∧ Below w.heap.size w w' := by
  obtain ⟨w1, HW1⟩ : ∃ W : World, Hid (W = w.alloc (.cells #[.pointer (some ⟨Wb, 0, none⟩)] 26)) := ⟨_, rfl⟩
  have hb1 : Below w.heap.size w w1 := by rw [HW1.out]; exact (Below.refl _ _).alloc (Nat.le_refl _) _
  have hx : w1.heap[w.heap.size]? = some (.cells #[.pointer (some ⟨Wb, 0, none⟩)] 26 (0, 0)) := by rw [HW1.out]; exact new_at rfl
  have h1 := h.keep hb1
  have HC : Hid (Calls Ybaf.prog 20 _ w1 _) := components_calls w.heap.size w1 h1 (cell_of hx rfl)
  have HB : Hid (Below w.heap.size w w1) := hb1
  have p0 : w1.cell? ⟨w.heap.size, 0, none⟩ = some (.pointer (some ⟨Wb, 0, none⟩)) := cell_of hx rfl
  have p29 : w1.cell? ⟨Wb, 29, none⟩ = some (.slice rp n c) := cell_of h1.wld h1.ringc
  clear h h1 hb1 hx
  go_enter Ybaf.func10, Ybaf.ntmps10
  go_upto_region 1 with fail
  rw [← HW1.out]
  go_wp2_with (go_at_call 20; refine HC.out.mono ?_; rintro e' w3 ⟨rfl, hb3⟩; have HB3 : Hid (Below w1.heap.size w1 w3) := hb3; clear hb3)
  go_ret
  exact ⟨rfl, HB.out.trans (HB3.out.mono HB.out.size)⟩
end Go.Proofs.YbulkdxyaFmt
