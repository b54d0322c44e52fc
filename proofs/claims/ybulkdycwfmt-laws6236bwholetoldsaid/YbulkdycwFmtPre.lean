/- parsePreallocated: by contract. -/
import Derived.Test.YbulkdycwFmtNodes
namespace Go.Proofs.YbulkdycwFmt
open Go.RowKit
open Go.Extern.Stop Go.Stop Go.Extern
set_option linter.unusedSimpArgs false
set_option linter.unusedVariables false

/-- The header's five values. -/
def vNs (dv : Nat → Int) (n : Nat) : Int := if n < 8 then 0 else hNs dv
def vNl (dv : Nat → Int) (n : Nat) : Int := if n < 8 then 0 else hNl dv
def vFl (dv : Nat → Int) (n : Nat) : Int := if n < 8 then 0 else hFl dv
def vRl (dv : Nat → Int) (n : Nat) : Int := if n < 8 then 0 else hRl dv
def vTy (dv : Nat → Int) (n : Nat) : Int := if n < 8 then 0 else hTy dv
/-- The header is refused. -/
def refused (dv : Nat → Int) (n : Nat) : Prop := n < 8 ∨ hNl dv ≠ units (hTy dv) 24 ∨ n - 8 < 4 * (hRl dv).toNat
/-- What the octets say: the nodes' places, and whether they are refused. -/
def Says (dv : Nat → Int) (n : Nat) (ps : List Nat) (b : Bool) : Prop := (refused dv n ∧ ps = [] ∧ b = true) ∨ (¬ refused dv n ∧ Scan n (hTy dv) dv (8 + 4 * (hRl dv).toNat) ps b)
theorem Says.same {dv : Nat → Int} {n : Nat} {ps ps' : List Nat} {b b' : Bool} (h : Says dv n ps b) (h' : Says dv n ps' b') : ps = ps' ∧ b = b' := by
  rcases h with ⟨h1, h2, h3⟩ | ⟨h1, h2⟩ <;> rcases h' with ⟨h1', h2', h3'⟩ | ⟨h1', h2'⟩
  · exact ⟨h2.trans h2'.symm, h3.trans h3'.symm⟩
  · exact absurd h1 h1'
  · exact absurd h1' h1
  · exact h2.same h2'
theorem RN.any {w : World} {B0 tb Tb C : Nat} {cur : Array Value} {T T' : Nat} {dv dv' : Nat → Int} (h : RN w B0 tb Tb C cur T dv []) : RN w B0 tb Tb C cur T' dv' [] :=
  ⟨h.row, h.size, h.cap, h.base, h.ne, h.len, h.und, h.apart, fun j p hp => by simp at hp⟩
/-- What parsePreallocated leaves. -/
def POut (w w' : World) (B0 tb : Nat) (dv : Nat → Int) (n : Nat) (e : Ending) : Prop :=
  ∃ (ps : List Nat) (b : Bool) (Tb C : Nat) (cur : Array Value), Says dv n ps b ∧ (if b = true then ∃ t x, e = .returned (.iface t x) else e = .returned .nilIface) ∧ w'.heap[tb]? = some (.cells (trc (vNs dv n) (vNl dv n) (vFl dv n) (vRl dv n) (vTy dv n) (.slice (some ⟨Tb, 0, none⟩) ps.length C)) 39 (0, 0)) ∧ RN w' B0 tb Tb C cur (hTy dv) dv ps ∧ Below B0 w w'
theorem fmtLeft (w : World) : (FmtDoors.printed ⟨#[82, 101, 109, 97, 105, 110, 105, 110, 103, 76, 101, 110, 32, 37, 100, 32, 105, 115, 32, 109, 111, 114, 101, 32, 116, 104, 97, 110, 32, 116, 104, 101, 32, 37, 100, 32, 111, 99, 116, 101, 116, 115, 32, 111, 102, 32, 110, 111, 100, 101, 32, 100, 97, 116, 97, 32, 115, 112, 97, 99, 101]⟩ 2).run Ybaf.prog w = .ok [(0, 100, false), (1, 100, false)] w := by kernel_rfl

theorem PDone.value {w w' : World} {B0 tb : Nat} {ns fl rl : Int} {T : Nat} {dv : Nat → Int} {L p0 : Nat} {e : Ending} (h : PDone w w' B0 tb ns fl rl T dv L p0 e) : ∃ v, e = .returned v := by
  obtain ⟨ps, b, Tb, C, cur, h1, h2, _⟩ := h
  split at h2
  · obtain ⟨t, x, h2⟩ := h2; exact ⟨_, h2⟩
  · exact ⟨_, h2⟩

set_option maxRecDepth 100000 in
set_option maxHeartbeats 2000000 in
theorem pre_calls (F : Interp) (B0 tb Nb k C : Nat) (cur : Array Value) (a0 a1 a2 a3 a4 : Value) (nv : Nat → ByteArray) (ad : Addr) (n c : Nat) (dv : Nat → Int) (w : World) (hn : n ≤ 2097152) (hnc : n ≤ c) (hd : Bytes dv) (hb : BsAt w ad n dv 0) (hab : ad.block < B0)
    (htb : B0 ≤ tb) (hp : w.heap[tb]? = some (.cells #[a0, a1, a2, a3, a4, .slice (some ⟨Nb, 0, none⟩) k C] 39 (0, 0))) (hRN : RN w B0 tb Nb C cur 0 dv []) (ht : Table w nv) (h1B : 1 < B0) (hB0 : B0 ≤ w.heap.size) (hF : F.answers w.tape) :
    Calls Ybaf.prog 5 #[.pointer (some ⟨tb, 0, none⟩), .slice (some ad) n c] w fun e w' => POut w w' B0 tb dv n e := by
  have HT : Hid (Table w nv) := ht
  have HF : Hid (F.answers w.tape) := hF
  have HRN : Hid (RN w B0 tb Nb C cur 0 dv []) := hRN
  have HB : Hid (BsAt w ad n dv 0) := hb
  have HP : Hid (w.heap[tb]? = some (.cells #[a0, a1, a2, a3, a4, .slice (some ⟨Nb, 0, none⟩) k C] 39 (0, 0))) := hp
  clear ht hF hRN hb hp
  have hstep : ∀ (cs : Array Value) (w1 : World), TStep tb cs w w1 → RN w1 B0 tb Nb C cur 0 dv [] := fun cs w1 hs => HRN.out.keep (hs.below B0 htb) (fun g _ hg hne => hs.other g hg hne)
  have HS : Hid (∀ (cs : Array Value) (w1 : World), TStep tb cs w w1 → RN w1 B0 tb Nb C cur 0 dv []) := hstep
  clear hstep
  by_cases h8 : n < 8
  · have HC := head_short F tb Nb k C a0 a1 a2 a3 a4 ad n c w h8 HP.out HF.out
    have HC' : Hid (Calls Ybaf.prog 9 _ _ _) := HC
    clear HC
    go_enter Ybaf.func5, Ybaf.ntmps5
    go_wp2_with (go_at_call 9; refine HC'.out.mono ?_; rintro e' w1 ⟨⟨t, x, rfl⟩, hst⟩; have HST : Hid (_) := hst; clear hst)
    go_ret
    refine ⟨[], true, Nb, C, cur, .inl ⟨.inl h8, rfl, rfl⟩, ⟨t, x, rfl⟩, ?_, (HS.out _ _ HST.out).any, HST.out.below B0 htb⟩
    simpa [vNs, vNl, vFl, vRl, vTy, h8] using HST.out.par
  · have h8' : 8 ≤ n := by omega
    have HC := head_long F tb Nb k C a0 a1 a2 a3 a4 ad n c dv nv w h8' hnc HP.out hd HB.out (by omega) (by omega) HT.out HF.out
    have hvs : trc (vNs dv n) (vNl dv n) (vFl dv n) (vRl dv n) (vTy dv n) = hdr dv := by funext x; simp [vNs, vNl, vFl, vRl, vTy, h8]
    by_cases hu : hNl dv = units (hTy dv) 24
    · simp only [if_pos hu] at HC
      have HC' : Hid (Calls Ybaf.prog 9 _ _ _) := HC
      clear HC
      have HU : Hid (hNl dv = units (hTy dv) 24) := hu
      have HVS : Hid (trc (vNs dv n) (vNl dv n) (vFl dv n) (vRl dv n) (vTy dv n) = hdr dv) := hvs
      clear hu hvs
      have hrl : 0 ≤ hRl dv ∧ hRl dv ≤ 127 := by unfold hRl; omega
      obtain ⟨R, hR⟩ : ∃ R : Nat, hRl dv = R := ⟨(hRl dv).toNat, by omega⟩
      have HR : Hid (hRl dv = R) := hR
      have hR7 : R ≤ 127 := by omega
      clear hR hrl
      have HT3 : Hid (∀ w1, TStep tb (hdr dv (.slice (some ⟨Nb, 0, none⟩) 0 C)) w w1 → w1.cell? ⟨tb, 3, none⟩ = some (.int .u8 R)) := fun w1 hs => by rw [← HR.out]; exact hs.cell rfl
      go_enter Ybaf.func5, Ybaf.ntmps5
      go_upto_region 2 with (go_at_call 9; refine HC'.out.mono ?_; rintro e' w1 ⟨rfl, hst⟩; have d3 := HT3.out _ hst; have HST : Hid (TStep tb (hdr dv (.slice (some ⟨Nb, 0, none⟩) 0 C)) w w1) := hst; clear hst)
      by_cases hfit : 4 * R ≤ n - 8
      · have hfit' : (R : Int) * 4 ≤ ((n - 8 : Nat) : Int) := by omega
        have q3 := cutL (cutA ad c 8) (n - 8) (c - 8) (4 * R) ((R : Int) * 4) (by omega) hfit (by omega)
        have hbs2 : ∀ w1, TStep tb (hdr dv (.slice (some ⟨Nb, 0, none⟩) 0 C)) w w1 → BsAt w1 (cutA (cutA ad c 8) (c - 8) (4 * R)) (n - 8 - 4 * R) dv (8 + 4 * R) := fun w1 hs => by
          have h1 := (HB.out.tstep hs (by omega)).cut c 8 n h8' (Nat.le_refl _) hnc
          have h2 := h1.cut (c - 8) (4 * R) (n - 8) hfit (Nat.le_refl _) (by omega)
          rw [Nat.zero_add] at h2
          exact h2
        have hcal := parseNodes_calls F B0 tb Nb C cur (hNs dv) (hFl dv) (hRl dv) (hTy dv) (hTy_eq hd).2.2 nv (cutA (cutA ad c 8) (c - 8) (4 * R)) (n - 8 - 4 * R) (c - 8 - 4 * R) (8 + 4 * R) n dv w1 (by omega) (by omega) (by omega) hd (hbs2 w1 HST.out) (by rw [cutA_block, cutA_block]; exact hab) htb (by have := HST.out.par; unfold TrAt; rw [← HU.out]; exact this) (HS.out _ _ HST.out).any (HT.out.tstep HST.out (by omega)) h1B (Nat.le_trans hB0 HST.out.size) (by rw [HST.out.tape]; exact HF.out)
        have HCAL : Hid (Calls Ybaf.prog 11 _ _ _) := hcal
        clear hcal hbs2
        go_wp2_with (go_at_call 11; refine HCAL.out.mono ?_; rintro e' w2 hdone; have HD : Hid (PDone w1 w2 B0 tb (hNs dv) (hFl dv) (hRl dv) (hTy dv) dv n (8 + 4 * R) e') := hdone; obtain ⟨v, rfl⟩ := hdone.value; clear hdone)
        go_ret
        obtain ⟨ps, b, Tb2, C2, cur2, hsc, he, htr, hrn, hbl⟩ := HD.out
        refine ⟨ps, b, Tb2, C2, cur2, .inr ⟨?_, by rw [HR.out]; exact hsc⟩, he, ?_, hrn, (HST.out.below B0 htb).trans hbl⟩
        · rintro (h | h | h)
          · omega
          · exact h HU.out
          · rw [HR.out] at h; omega
        · rw [HVS.out]
          unfold TrAt at htr
          rw [← HU.out] at htr
          exact htr
      · have hfit' : ¬ (R : Int) * 4 ≤ ((n - 8 : Nat) : Int) := by omega
        go_wp2_with (go_at_call 10; refine (errorf2_calls F _ fmtLeft _ _ (.inr ⟨(R : Int), rfl⟩) (.inl ⟨((n - 8 : Nat) : Int), rfl⟩) w1.heap.size _ (by exact (show F.answers w1.tape by rw [HST.out.tape]; exact HF.out)) (by go_simp) (by go_simp)).mono ?_; rintro e' w2 ⟨⟨t, x, rfl⟩, hb⟩; have HB : Hid (Below w1.heap.size w1 w2) := ((Below.refl _ _).alloc (Nat.le_refl _) _).trans (hb.mono (by simp)); clear hb)
        go_ret
        have hst2 := HST.out.below' HB.out
        refine ⟨[], true, Nb, C, cur, .inl ⟨.inr (.inr (by rw [HR.out]; omega)), rfl, rfl⟩, ⟨t, x, rfl⟩, ?_, (HS.out _ _ hst2).any, hst2.below B0 htb⟩
        have := hst2.par
        rw [HVS.out]
        exact this
    · simp only [if_neg hu] at HC
      have HC' : Hid (Calls Ybaf.prog 9 _ _ _) := HC
      clear HC
      go_enter Ybaf.func5, Ybaf.ntmps5
      go_wp2_with (go_at_call 9; refine HC'.out.mono ?_; rintro e' w1 ⟨⟨t, x, rfl⟩, hst⟩; have HST : Hid (_) := hst; clear hst)
      go_ret
      refine ⟨[], true, Nb, C, cur, .inl ⟨.inr (.inl hu), rfl, rfl⟩, ⟨t, x, rfl⟩, ?_, (HS.out _ _ HST.out).any, HST.out.below B0 htb⟩
      have := HST.out.par
      rw [hvs]
      exact this
end Go.Proofs.YbulkdycwFmt
