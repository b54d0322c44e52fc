/- One node more: the plain side. -/
import Derived.Test.YbulkdycwFmtScan
namespace Go.Proofs.YbulkdycwFmt
open Go.RowKit
set_option linter.unusedSimpArgs false
set_option linter.unusedVariables false

theorem NStep.cell_other {Tb : Nat} {rc : Array Value} {U : Option Nat} {w w' : World} (h : NStep Tb rc U w w') {a : Addr} {v : Value} (hc : w.cell? a = some v) (h1 : a.block ≠ Tb) (h2 : U ≠ some a.block) : w'.cell? a = some v := by
  rw [World.cell?_of_block (w := w) (h.other _ (lt_of_cell hc) h1 (fun e => h2 e.symm))]; exact hc

theorem rn_push {w w' : World} {B0 tb Tb C : Nat} {cur : Array Value} {T : Nat} {dv : Nat → Int} {ps : List Nat} (h : RN w B0 tb Tb C cur T dv ps) (hk : ps.length < C) (p : Nat) {U U' : Value} {a2 : Addr} {c2 : Nat}
    (hU : cur[ps.length * 19 + 16]? = some U) (hst : NStep Tb (nrow cur (ps.length * 19) T dv p (p + 4 * units T 24) (.slice (some a2) (need T dv p - 4 * units T 24 - 4) c2) U') U.ownBlock w w')
    (hown : w'.ownsRow B0 23 1 U' (und T dv (p + ssum T 16) 10).length ((und T dv (p + ssum T 16) 10).map (Value.int .u32))) (hlie : U'.ownBlock = U.ownBlock ∨ ∃ g, U'.ownBlock = some g ∧ w.heap.size ≤ g)
    (htb : tb < w.heap.size) (hB0 : B0 ≤ w.heap.size) (hdat : tbit T 22 = true → BsAt w a2 (need T dv p - 4 * units T 24 - 4) dv (p + 4 * units T 24 + 4)) (ha2 : a2.block < B0) :
    RN w' B0 tb Tb C (nrow cur (ps.length * 19) T dv p (p + 4 * units T 24) (.slice (some a2) (need T dv p - 4 * units T 24 - 4) c2) U') T dv (ps ++ [p]) := by
  have hTs : Tb < w.heap.size := (Array.getElem?_eq_some_iff.1 h.row).1
  have hs := h.size
  have hmul : (ps.length + 1) * 19 ≤ C * 19 := Nat.mul_le_mul_right _ hk
  have ho : ps.length * 19 + 19 ≤ cur.size := by omega
  have hUk : ∃ l xs, w.ownsRow B0 23 1 U l xs ∧ U.ownBlock ≠ some Tb ∧ U.ownBlock ≠ some tb := by
    obtain ⟨V, l, xs, h1, h2, h3, h4⟩ := h.und ps.length hk
    obtain rfl := Option.some.inj (h1.symm.trans hU)
    exact ⟨l, xs, h2, h3, h4⟩
  obtain ⟨lU, xsU, hUo, hUT, hUt⟩ := hUk
  have hbelow : Below B0 w w' := hst.below B0 h.base (fun g hg => (hUo.lt g hg).1) hB0
  have out : ∀ j i, j ≠ ps.length → i < 19 → (nrow cur (ps.length * 19) T dv p (p + 4 * units T 24) (.slice (some a2) (need T dv p - 4 * units T 24 - 4) c2) U')[j * 19 + i]? = cur[j * 19 + i]? := fun j i hj hi => by
    refine nrow_out _ _ _ _ _ _ _ _ _ ?_
    rcases Nat.lt_or_ge j ps.length with hlt | hge
    · left
      have : (j + 1) * 19 ≤ ps.length * 19 := Nat.mul_le_mul_right _ hlt
      omega
    · right
      have : (ps.length + 1) * 19 ≤ j * 19 := Nat.mul_le_mul_right _ (by omega)
      omega
  have keepU : ∀ j V g, j < C → j ≠ ps.length → cur[j * 19 + 16]? = some V → V.ownBlock = some g → w'.heap[g]? = w.heap[g]? := fun j V g hj hne hV hg => by
    obtain ⟨V', l, xs, h1, h2, h3, h4⟩ := h.und j hj
    obtain rfl := Option.some.inj (h1.symm.trans hV)
    exact hst.other g (h2.lt g hg).2 (fun e => h3 (by rw [hg, e])) (fun e => h.apart j ps.length V' U hj hk hne h1 hU g hg e.symm)
  have hu' := nrow_u cur (ps.length * 19) T dv p (p + 4 * units T 24) (.slice (some a2) (need T dv p - 4 * units T 24 - 4) c2) U' ho
  have hUT' : U'.ownBlock ≠ some Tb := by
    rcases hlie with e | ⟨g, e, hge⟩
    · rw [e]; exact hUT
    · rw [e]; intro e'; cases e'; omega
  have hUt' : U'.ownBlock ≠ some tb := by
    rcases hlie with e | ⟨g, e, hge⟩
    · rw [e]; exact hUt
    · rw [e]; intro e'; cases e'; omega
  refine ⟨hst.par, by rw [nrow_size]; exact h.size, h.cap, h.base, h.ne, by simp; omega, fun j hj => ?_, ?_, fun j q hq => ?_⟩
  · by_cases hjk : j = ps.length
    · subst hjk
      exact ⟨U', _, _, hu', hown, hUT', hUt'⟩
    · obtain ⟨V, l, xs, h1, h2, h3, h4⟩ := h.und j hj
      exact ⟨V, l, xs, (out j 16 hjk (by omega)).trans h1, own_of_block h2 (fun g hg => keepU j V g hj hjk h1 hg), h3, h4⟩
  · intro i j V V' hi hj hij hV hV' g hg
    by_cases hik : i = ps.length
    · subst hik
      obtain rfl := Option.some.inj (hu'.symm.trans hV)
      rw [out j 16 (Ne.symm hij) (by omega)] at hV'
      rcases hlie with e | ⟨g', e, hge⟩
      · exact h.apart ps.length j U V' hi hj hij hU hV' g (by rw [← e]; exact hg)
      · intro hg'
        obtain ⟨V2, l, xs, h1, h2, h3, h4⟩ := h.und j hj
        obtain rfl := Option.some.inj (h1.symm.trans hV')
        have := (h2.lt g hg').2
        rw [e] at hg
        cases hg
        omega
    · rw [out i 16 hik (by omega)] at hV
      by_cases hjk : j = ps.length
      · subst hjk
        obtain rfl := Option.some.inj (hu'.symm.trans hV')
        intro hg'
        rcases hlie with e | ⟨g', e, hge⟩
        · exact h.apart i ps.length V U hi hj hij hV hU g hg (by rw [← e]; exact hg')
        · obtain ⟨V2, l, xs, h1, h2, h3, h4⟩ := h.und i hi
          obtain rfl := Option.some.inj (h1.symm.trans hV)
          have := (h2.lt g hg).2
          rw [e] at hg'
          cases hg'
          omega
      · rw [out j 16 hjk (by omega)] at hV'
        exact h.apart i j V V' hi hj hij hV hV' g hg
  · by_cases hjk : j < ps.length
    · rw [List.getElem?_append_left hjk] at hq
      have hn := h.nodes j q hq
      have hne : j ≠ ps.length := by omega
      obtain ⟨V, hv1, hv2⟩ := hn.und
      obtain ⟨a, c, hd1, hd2, hd3⟩ := hn.data
      refine ⟨fun i hi => (out j i hne (by omega)).trans (hn.fields i hi), ⟨V, (out j 16 hne (by omega)).trans hv1, own_of_block hv2 (fun g hg => keepU j V g (by omega) hne hv1 hg)⟩, (out j 17 hne (by omega)).trans hn.id, a, c, (out j 18 hne (by omega)).trans hd1, fun hpos => ?_, hd3⟩
      obtain ⟨ad, rfl, hbs⟩ := hd2 hpos
      exact ⟨ad, rfl, fun i hi => (hbelow.cell (by rw [add_block]; exact hd3 ad rfl)).trans (hbs i hi)⟩
    · rw [List.getElem?_append_right (by omega)] at hq
      have hj0 : j - ps.length = 0 := by
        rcases Nat.eq_zero_or_pos (j - ps.length) with h0 | h0
        · exact h0
        · rw [List.getElem?_eq_none (by simp; omega)] at hq; cases hq
      obtain rfl : j = ps.length := by omega
      rw [hj0] at hq
      obtain rfl : p = q := by simpa using hq
      obtain ⟨i1, i2⟩ := nrow_id cur (ps.length * 19) T dv p (p + 4 * units T 24) (.slice (some a2) (need T dv p - 4 * units T 24 - 4) c2) U' ho
      refine ⟨fun i hi => nrow_field _ _ _ _ _ _ _ _ ho i hi, ⟨U', hu', hown⟩, i1, ?_⟩
      by_cases hb : tbit T 22 = true
      · rw [if_pos hb] at i2
        refine ⟨some a2, c2, i2, fun _ => ⟨a2, rfl, fun i hi => (hbelow.cell (by rw [add_block]; exact ha2)).trans (hdat hb i hi)⟩, fun ad e => by cases e; exact ha2⟩
      · rw [if_neg hb] at i2
        have e0 : need T dv p - 4 * units T 24 - 4 = 0 := by unfold need; rw [if_neg hb]; omega
        exact ⟨none, 0, by rw [i2, e0], fun hpos => absurd hpos (by omega), fun ad e => by cases e⟩
end Go.Proofs.YbulkdycwFmt
