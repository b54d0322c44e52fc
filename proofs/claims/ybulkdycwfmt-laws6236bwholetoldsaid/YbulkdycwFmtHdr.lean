/- parseHeader: by contract. -/
import Derived.Test.YbulkdycwFmtHead
namespace Go.Proofs.YbulkdycwFmt
open Go.RowKit
open Go.Extern.Stop Go.Stop Go.Extern
set_option linter.unusedSimpArgs false
set_option linter.unusedVariables false

set_option maxRecDepth 100000 in
set_option maxHeartbeats 2000000 in
theorem head_short (F : Interp) (tb Nb k C : Nat) (a0 a1 a2 a3 a4 : Value) (ad : Addr) (n c : Nat) (w : World) (hn : n < 8) (hp : w.heap[tb]? = some (.cells #[a0, a1, a2, a3, a4, .slice (some ⟨Nb, 0, none⟩) k C] 39 (0, 0))) (hF : F.answers w.tape) :
    Calls Ybaf.prog 9 #[.pointer (some ⟨tb, 0, none⟩), .slice (some ad) n c] w fun e w' => (∃ t x, e = .returned (.tuple #[.slice none 0 0, .iface t x])) ∧ TStep tb (trc 0 0 0 0 0 (.slice (some ⟨Nb, 0, none⟩) 0 C)) w w' := by
  have HP : Hid (w.heap[tb]? = some (.cells #[a0, a1, a2, a3, a4, .slice (some ⟨Nb, 0, none⟩) k C] 39 (0, 0))) := hp
  have HF : Hid (F.answers w.tape) := hF
  have c0 := cell_of (i := 0) hp rfl
  have c1 := cell_of (i := 1) hp rfl
  have c2 := cell_of (i := 2) hp rfl
  have c3 := cell_of (i := 3) hp rfl
  have c4 := cell_of (i := 4) hp rfl
  have c5 := cell_of (i := 5) hp rfl
  have fz : ∀ i, w.frozen? ⟨tb, i, none⟩ = false := fun i => by simp [World.frozen?, hp]
  have f0 := fz 0
  have f1 := fz 1
  have f2 := fz 2
  have f3 := fz 3
  have f4 := fz 4
  have f5 := fz 5
  have hn' : (n : Int) < 8 := by omega
  clear hp hF fz
  go_enter Ybaf.func9, Ybaf.ntmps9
  go_wp2_with (go_at_call 10; refine (errorf2_calls F _ fmtHead (.iface 3 (.int .i64 8)) (.iface 3 (.int .i64 (n : Int))) (.inl ⟨8, rfl⟩) (.inl ⟨(n : Int), rfl⟩) w.heap.size _ (by rw [((six_step HP.out _ _ _ _ _ _).alloc _).tape]; exact HF.out) (by go_simp) (by go_simp)).mono ?_; rintro e' w2 ⟨⟨t, x, rfl⟩, hb⟩; have HS : Hid (TStep tb (trc 0 0 0 0 0 (.slice (some ⟨Nb, 0, none⟩) 0 C)) w w2) := ((six_step HP.out _ _ _ _ _ _).alloc _).below' hb; clear hb)
  go_ret2
  exact ⟨⟨_, _, rfl⟩, HS.out⟩

theorem cutLH (ad : Addr) (n c lo hi : Nat) (l h : Int) (hl : l = lo) (hh : h = hi) (h1 : lo ≤ hi) (h2 : hi ≤ c) (w : World) : (Instr.slice 24 (.slice (some ad) n c) (some (.int .i64 l)) (some (.int .i64 h)) none).run Ybaf.prog w = .ok (.slice (some (cutA ad c lo)) (hi - lo) (c - lo)) w := by
  subst hl hh; exact cut_lh ad n c lo hi h1 h2 w
theorem cutL (ad : Addr) (n c lo : Nat) (l : Int) (hl : l = lo) (h1 : lo ≤ n) (h2 : n ≤ c) (w : World) : (Instr.slice 24 (.slice (some ad) n c) (some (.int .i64 l)) none none).run Ybaf.prog w = .ok (.slice (some (cutA ad c lo)) (n - lo) (c - lo)) w := by
  subst hl; exact cut_l ad n c lo h1 h2 w
theorem cutH (ad : Addr) (n c hi : Nat) (h : Int) (hh : h = hi) (h2 : hi ≤ c) (w : World) : (Instr.slice 24 (.slice (some ad) n c) none (some (.int .i64 h)) none).run Ybaf.prog w = .ok (.slice (some ad) hi c) w := by
  subst hh; exact cut_h ad n c hi h2 w
theorem cutA_block (ad : Addr) (c lo : Nat) : (cutA ad c lo).block = ad.block := by
  unfold cutA; split
  · rfl
  · exact add_block _ _

/-- What the header says. -/
def hNs (dv : Nat → Int) : Int := be dv 0 2
def hNl (dv : Nat → Int) : Nat := (be dv 2 2 / 2048).toNat
def hFl (dv : Nat → Int) : Int := be dv 2 2 / 128 % 16
def hRl (dv : Nat → Int) : Int := be dv 2 2 % 128
def hTy (dv : Nat → Int) : Nat := (be dv 4 3).toNat
abbrev hdr (dv : Nat → Int) (nd : Value) : Array Value := trc (hNs dv) (hNl dv) (hFl dv) (hRl dv) (hTy dv) nd
theorem hNl_eq {dv : Nat → Int} (h : Bytes dv) : be dv 2 2 / 2048 = (hNl dv : Int) ∧ hNl dv ≤ 31 := by
  have b := be_bounds h 2 2
  have : be dv 2 2 < 65536 := by have := b.2; omega
  unfold hNl
  omega
theorem hTy_eq {dv : Nat → Int} (h : Bytes dv) : be dv 4 4 / 256 = (hTy dv : Int) ∧ be dv 4 3 = (hTy dv : Int) ∧ hTy dv < 16777216 := by
  have b := be_bounds h 4 3
  have b3 : be dv 4 3 < 16777216 := by have := b.2; omega
  have e : be dv 4 4 = be dv 4 3 * 256 + dv 7 := rfl
  have x := h 7
  unfold hTy
  omega

set_option maxRecDepth 100000 in
set_option maxHeartbeats 2000000 in
theorem head_long (F : Interp) (tb Nb k C : Nat) (a0 a1 a2 a3 a4 : Value) (ad : Addr) (n c : Nat) (dv : Nat → Int) (nv : Nat → ByteArray) (w : World) (hn : 8 ≤ n) (hnc : n ≤ c) (hp : w.heap[tb]? = some (.cells #[a0, a1, a2, a3, a4, .slice (some ⟨Nb, 0, none⟩) k C] 39 (0, 0))) (hd : Bytes dv) (hb : BsAt w ad n dv 0) (hne : ad.block ≠ tb) (htb : 1 < tb) (ht : Table w nv) (hF : F.answers w.tape) :
    Calls Ybaf.prog 9 #[.pointer (some ⟨tb, 0, none⟩), .slice (some ad) n c] w fun e w' =>
      (if hNl dv = units (hTy dv) 24 then e = .returned (.tuple #[.slice (some (cutA ad c 8)) (n - 8) (c - 8), .nilIface]) else ∃ t x, e = .returned (.tuple #[.slice none 0 0, .iface t x])) ∧ TStep tb (hdr dv (.slice (some ⟨Nb, 0, none⟩) 0 C)) w w' := by
  have HP : Hid (w.heap[tb]? = some (.cells #[a0, a1, a2, a3, a4, .slice (some ⟨Nb, 0, none⟩) k C] 39 (0, 0))) := hp
  have HF : Hid (F.answers w.tape) := hF
  have HD : Hid (BsAt w ad n dv 0) := hb
  have HT : Hid (Table w nv) := ht
  have c0 := cell_of (i := 0) hp rfl
  have c1 := cell_of (i := 1) hp rfl
  have c2 := cell_of (i := 2) hp rfl
  have c3 := cell_of (i := 3) hp rfl
  have c4 := cell_of (i := 4) hp rfl
  have c5 := cell_of (i := 5) hp rfl
  have fz : ∀ i, w.frozen? ⟨tb, i, none⟩ = false := fun i => by simp [World.frozen?, hp]
  have f0 := fz 0
  have f1 := fz 1
  have f2 := fz 2
  have f3 := fz 3
  have f4 := fz 4
  have f5 := fz 5
  have hn' : ¬ (n : Int) < 8 := by omega
  have q1 := cutLH ad n c 2 4 2 4 rfl rfl (by omega) (by omega)
  have q2 := cutLH ad n c 0 2 0 2 rfl rfl (by omega) (by omega)
  have q3 := cutLH ad n c 4 8 4 8 rfl rfl (by omega) (by omega)
  have q4 := cutL ad n c 8 8 rfl hn hnc
  have hw : 1 < w.heap.size := Nat.lt_trans htb (Array.getElem?_eq_some_iff.1 hp).1
  clear hp hF fz hb ht
  go_enter Ybaf.func9, Ybaf.ntmps9
  go_upto_region 4 with fail
  obtain ⟨W1, HW1⟩ : ∃ W1 : World, Hid (W1 = ((((((w.setCell ⟨tb, 0, none⟩ (.int .u16 0)).setCell ⟨tb, 1, none⟩ (.int .u8 0)).setCell ⟨tb, 2, none⟩ (.int .u8 0)).setCell ⟨tb, 3, none⟩ (.int .u8 0)).setCell ⟨tb, 4, none⟩ (.int .u32 0)).setCell ⟨tb, 5, none⟩ (.slice (some ⟨Nb, 0, none⟩) 0 C))) := ⟨_, rfl⟩
  have HS1 : Hid (TStep tb (trc 0 0 0 0 0 (.slice (some ⟨Nb, 0, none⟩) 0 C)) w W1) := by
    rw [HW1.out]; exact six_step HP.out _ _ _ _ _ _
  rw [← HW1.out]
  clear HW1 c0 c1 c2 c3 c4 c5 f0 f1 f2 f3 f4 f5
  have bL := be_bounds hd 2 2
  have bL1 : be dv 2 2 < 65536 := by have := bL.2; omega
  have bN := be_bounds hd 0 2
  have bN1 : be dv 0 2 < 65536 := by have := bN.2; omega
  have ha1 : bits .and .u16 (be dv 2 2 / 128) 15 = be dv 2 2 / 128 % 16 := bits_mask .u16 16 (by decide) wraps_u16 4 (by decide) _ (by omega) (by omega)
  have ha2 : bits .and .u16 (be dv 2 2) 127 = be dv 2 2 % 128 := bits_mask .u16 16 (by decide) wraps_u16 7 (by decide) _ (by omega) (by omega)
  obtain ⟨L, hL⟩ : ∃ L : Int, be dv 2 2 = L := ⟨_, rfl⟩
  obtain ⟨N0, hN0⟩ : ∃ L : Int, be dv 0 2 = L := ⟨_, rfl⟩
  have HD1 : Hid (BsAt W1 ad n dv 0) := HD.out.tstep HS1.out hne
  have HU1 : Hid (∀ w : World, BsAt w (cutA ad c 2) 2 dv 2 → Calls Ybaf.prog 13 #[.agg #[], .slice (some (cutA ad c 2)) 2 (c - 2)] w fun e w' => e = .returned (.int .u16 L) ∧ Below w.heap.size w w') := fun w h => by rw [← hL]; exact u16_calls (cutA ad c 2) 2 (c - 2) 2 dv w (by omega) hd h
  have HU2 : Hid (∀ w : World, BsAt w (cutA ad c 0) 2 dv 0 → Calls Ybaf.prog 13 #[.agg #[], .slice (some (cutA ad c 0)) 2 c] w fun e w' => e = .returned (.int .u16 N0) ∧ Below w.heap.size w w') := fun w h => by rw [← hN0]; exact u16_calls (cutA ad c 0) 2 c 0 dv w (by omega) hd h
  have HU3 : Hid (∀ w : World, BsAt w (cutA ad c 4) 4 dv 4 → Calls Ybaf.prog 14 #[.agg #[], .slice (some (cutA ad c 4)) 4 (c - 4)] w fun e w' => e = .returned (.int .u32 (be dv 4 4)) ∧ Below w.heap.size w w') := fun w h => u32_calls (cutA ad c 4) 4 (c - 4) 4 dv w (by omega) hd h
  rw [hL] at bL bL1 ha1 ha2
  rw [hN0] at bN bN1
  go_region_with (go_at_call 13; refine (HU1.out _ (by exact HD1.out.cut c 2 4 (by omega) (by omega) hnc)).mono ?_; rintro e' w2 ⟨rfl, hb⟩; have HS2 : Hid (TStep tb (trc 0 0 0 0 0 (.slice (some ⟨Nb, 0, none⟩) 0 C)) w w2) := HS1.out.drew.below' hb; clear hb)
  have HD2 : Hid (BsAt w2 ad n dv 0) := HD.out.tstep HS2.out hne
  go_upto_region 5 with fail
  go_region_with (go_at_call 13; refine (HU2.out _ (by exact HD2.out.cut c 0 2 (by omega) (by omega) hnc)).mono ?_; rintro e' w3 ⟨rfl, hb⟩; have HS3 : Hid (TStep tb (trc 0 0 0 0 0 (.slice (some ⟨Nb, 0, none⟩) 0 C)) w w3) := HS2.out.drew.below' hb; clear hb; have d0 := HS3.out.cell (i := 0) rfl; have d1 := HS3.out.cell (i := 1) rfl; have d2 := HS3.out.cell (i := 2) rfl; have d3 := HS3.out.cell (i := 3) rfl; have e0 := HS3.out.frozen 0; have e1 := HS3.out.frozen 1; have e2 := HS3.out.frozen 2; have e3 := HS3.out.frozen 3)
  go_upto_region 9 with fail
  obtain ⟨W4, HW4⟩ : ∃ W : World, Hid (W = ((((w3.setCell ⟨tb, 0, none⟩ (.int .u16 N0)).setCell ⟨tb, 1, none⟩ (.int .u8 (L / 2048))).setCell ⟨tb, 2, none⟩ (.int .u8 (L / 128 % 16))).setCell ⟨tb, 3, none⟩ (.int .u8 (L % 128)))) := ⟨_, rfl⟩
  have HS4 : Hid (TStep tb (trc N0 (L / 2048) (L / 128 % 16) (L % 128) 0 (.slice (some ⟨Nb, 0, none⟩) 0 C)) w W4) := by
    rw [HW4.out]
    have h := (((HS3.out.set 0 (.int .u16 N0)).set 1 (.int .u8 (L / 2048))).set 2 (.int .u8 (L / 128 % 16))).set 3 (.int .u8 (L % 128))
    simp at h
    exact h
  rw [← HW4.out]
  clear HW4 d0 d1 d2 d3 e0 e1 e2 e3
  have HD4 : Hid (BsAt W4 ad n dv 0) := HD.out.tstep HS4.out hne
  obtain ⟨hT1, hT2, hT3⟩ := hTy_eq hd
  go_region_with (go_at_call 14; refine (HU3.out _ (by exact HD4.out.cut c 4 8 (by omega) (by omega) hnc)).mono ?_; rintro e' w5 ⟨rfl, hb⟩; have HS5 : Hid (TStep tb (trc N0 (L / 2048) (L / 128 % 16) (L % 128) 0 (.slice (some ⟨Nb, 0, none⟩) 0 C)) w w5) := HS4.out.drew.below' hb; clear hb; have d4 := HS5.out.cell (i := 4) rfl; have e4 := HS5.out.frozen 4)
  go_upto_region 10 with fail
  obtain ⟨W6, HW6⟩ : ∃ W : World, Hid (W = w5.setCell ⟨tb, 4, none⟩ (.int .u32 (hTy dv))) := ⟨_, rfl⟩
  have HS6 : Hid (TStep tb (hdr dv (.slice (some ⟨Nb, 0, none⟩) 0 C)) w W6) := by
    rw [HW6.out]
    have h := HS5.out.set 4 (.int .u32 (hTy dv))
    simp at h
    have e1 : N0 = hNs dv := hN0.symm
    have e2 : L / 2048 = (hNl dv : Int) := by rw [← hL]; exact (hNl_eq hd).1
    have e3 : L / 128 % 16 = hFl dv := by rw [← hL]; rfl
    have e4 : L % 128 = hRl dv := by rw [← hL]; rfl
    rw [e1, e2, e3, e4] at h
    exact h
  rw [← HW6.out]
  clear HW6 d4 e4 ha1 ha2 HU1 HU2 HU3 HD1 HD2 HD4 HS1 HS2 HS3 HS4 HS5
  have d0 := HS6.out.cell (i := 0) rfl
  have d1 := HS6.out.cell (i := 1) rfl
  have d2 := HS6.out.cell (i := 2) rfl
  have d3 := HS6.out.cell (i := 3) rfl
  have d4 := HS6.out.cell (i := 4) rfl
  have d5 := HS6.out.cell (i := 5) rfl
  have HC : Hid (Calls Ybaf.prog 15 #[.agg (hdr dv (.slice (some ⟨Nb, 0, none⟩) 0 C))] W6 fun e w' => (if hNl dv = units (hTy dv) 24 then e = .returned .nilIface else ∃ t x, e = .returned (.iface t x)) ∧ Below W6.heap.size W6 w') :=
    checkLen_calls F (hNs dv) (hFl dv) (hRl dv) (hNl dv) (hTy dv) _ 0 C hT3 (by have := (hNl_eq hd).2; omega) nv W6 (HT.out.tstep HS6.out htb) (Nat.lt_of_lt_of_le hw HS6.out.size) (by rw [HS6.out.tape]; exact HF.out)
  by_cases hlen : hNl dv = units (hTy dv) 24
  · have HC' : Hid (Calls Ybaf.prog 15 #[.agg (hdr dv (.slice (some ⟨Nb, 0, none⟩) 0 C))] W6 fun e w' => e = .returned .nilIface ∧ Below W6.heap.size W6 w') := HC.out.mono (fun e w' h => ⟨by have := h.1; rw [if_pos hlen] at this; exact this, h.2⟩)
    have HL : Hid (hNl dv = units (hTy dv) 24) := hlen
    clear HC hlen
    go_wp2_with (go_at_call 15; refine HC'.out.mono ?_; rintro e' w7 ⟨rfl, hb⟩; have HS7 : Hid (TStep tb (hdr dv (.slice (some ⟨Nb, 0, none⟩) 0 C)) w w7) := HS6.out.below' hb; clear hb)
    go_ret2
    exact ⟨rfl, HS7.out⟩
  · have HC' : Hid (Calls Ybaf.prog 15 #[.agg (hdr dv (.slice (some ⟨Nb, 0, none⟩) 0 C))] W6 fun e w' => (∃ t x, e = .returned (.iface t x)) ∧ Below W6.heap.size W6 w') := HC.out.mono (fun e w' h => ⟨by have := h.1; rw [if_neg hlen] at this; exact this, h.2⟩)
    have HL : Hid (¬ hNl dv = units (hTy dv) 24) := hlen
    clear HC hlen
    go_wp2_with (go_at_call 15; refine HC'.out.mono ?_; rintro e' w7 ⟨⟨t, x, rfl⟩, hb⟩; have HS7 : Hid (TStep tb (hdr dv (.slice (some ⟨Nb, 0, none⟩) 0 C)) w w7) := HS6.out.below' hb; clear hb)
    go_ret2
    exact ⟨⟨_, _, rfl⟩, HS7.out⟩
end Go.Proofs.YbulkdycwFmt
