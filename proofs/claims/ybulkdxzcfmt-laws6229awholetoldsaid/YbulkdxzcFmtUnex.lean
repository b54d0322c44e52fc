/- token.String, unexpected: by contract. -/
import Derived.Test.YbulkdxzcFmtKind
namespace Go.Proofs.YbulkdxzcFmt
open Go.RowKit Go.Maps
open Go.Extern.Stop Go.Stop Go.Extern
set_option linter.unusedSimpArgs false
set_option linter.unusedVariables false

theorem grown_of_below {w w' : World} {B : Nat} (h : Below B w w') (hB : w.heap.size ≤ B) : w.grownBy w' none :=
  ⟨h.os, h.tape, h.output, by
    rcases Nat.eq_zero_or_pos w.heap.size with h0 | h0
    · omega
    · have h1 := h.block (w.heap.size - 1) (by omega)
      rw [Array.getElem?_eq_getElem (show w.heap.size - 1 < w.heap.size by omega)] at h1
      have := (Array.getElem?_eq_some_iff.1 h1).1
      omega, fun i hi _ => h.block i (by omega)⟩
theorem Vars.keep {H : Type} {w w' : World} {bm nm : Nat} {D : DataW H} {bo oo no co : Nat} {ov : Nat → ByteArray} {kv : Nat → Int} {B : Nat} (h : Vars H w bm nm D bo oo no co ov kv) (hb : Below B w w') (hB : w.heap.size ≤ B) : Vars H w' bm nm D bo oo no co ov kv := by
  have hc : ∀ (a : Addr) v, w.cell? a = some v → w'.cell? a = some v := fun a v h => (hb.cell (Nat.lt_of_lt_of_le (lt_of_cell h) hB)).trans h
  exact ⟨hc _ _ h.mc, h.own.kept (grown_of_below hb hB) (by simp), hc _ _ h.oc, fun j hj => ⟨hc _ _ (h.ops j hj).1, hc _ _ (h.ops j hj).2⟩, h.no1⟩

set_option maxRecDepth 100000 in
set_option maxHeartbeats 2000000 in
theorem tstr {H : Type} (F : Interp) (k : Int) (t f : ByteArray) (l c : Int) (bm nm : Nat) (D : DataW H) (bo oo no co : Nat) (ov : Nat → ByteArray) (kv : Nat → Int) (w : World) (hF : F.answers w.tape) (hV : Vars H w bm nm D bo oo no co ov kv) :
    Calls Ybaf.prog 13 #[.agg (tokc k t f l c)] w fun e w' => (∃ s, e = .returned (.string s)) ∧ Below w.heap.size w w' := by
  have HV : Hid (Vars H w bm nm D bo oo no co ov kv) := hV
  have HF : Hid (F.answers w.tape) := hF
  clear hV hF
  unfold tokc
  go_enter Ybaf.func13, Ybaf.ntmps13
  by_cases h3 : k = 3
  · subst h3; go_wp2; go_ret; exact ⟨⟨_, rfl⟩, (Below.refl _ _).alloc (Nat.le_refl _) _⟩
  by_cases h4 : k = 4
  · subst h4; go_wp2; go_ret; exact ⟨⟨_, rfl⟩, (Below.refl _ _).alloc (Nat.le_refl _) _⟩
  have g3 : (k == 3) = false := by simpa using h3
  have g4 : (k == 4) = false := by simpa using h4
  clear h3 h4
  go_wp2_with (go_at_call 10; refine (kstr F k bm nm D bo oo no co ov kv _ (by exact HF.out) (HV.out.keep ((Below.refl w.heap.size w).alloc (Nat.le_refl _) _) (Nat.le_refl _))).mono ?_; rintro e' w' ⟨⟨s, rfl⟩, hb⟩; have HB : Hid (Below _ _ _) := hb; clear hb)
  go_ret
  exact ⟨⟨_, rfl⟩, ((Below.refl w.heap.size w).alloc (Nat.le_refl _) _).trans (HB.out.mono (by simp))⟩

/-- Sprintf at a string and a token. -/
theorem rows_exp {H : Type} (F : Interp) (k : Int) (t f : ByteArray) (l c : Int) (want : ByteArray) (bm nm : Nat) (D : DataW H) (bo oo no co : Nat) (ov : Nat → ByteArray) (kv : Nat → Int) (w : World) (hF : F.answers w.tape) (hV : Vars H w bm nm D bo oo no co ov kv) (blk : Nat)
    (c0 : w.cell? ⟨blk, 0, none⟩ = some (.iface 9 (.string want))) (c1 : w.cell? ⟨blk, 1, none⟩ = some (.iface 31 (.agg (tokc k t f l c)))) {R : Value → World → Prop} (h : ∀ s w', Below w.heap.size w w' → R (.string s) w') :
    Rows Ybaf.prog FmtCalls.turnsRow (FmtCalls.save 0 0 (.slice (some ⟨blk, 0, none⟩) 2 2) ⟨#[101, 120, 112, 101, 99, 116, 101, 100, 32, 37, 115, 44, 32, 102, 111, 117, 110, 100, 32, 37, 115]⟩ [] [(0, 115, false), (1, 115, false)]) w R := by
  have q4 := act9
  have q5 := op9
  have q6 := act31
  have q7 := str31
  have hb : blk < w.heap.size := lt_of_cell c0
  apply rows_call nextTurns
  case hr =>
    go_simp
    exact ⟨⟨rfl, rfl, rfl⟩, rfl⟩
  case hi => exact invoke31 _ _
  case hc =>
    refine (tstr F k t f l c bm nm D bo oo no co ov kv _ (by exact hF) (by exact hV)).mono fun e w₃ ⟨he, hx⟩ => ?_
    obtain ⟨s, rfl⟩ := he
    have hF' := answers_open (show F.answers w₃.tape by rw [hx.tape]; exact hF)
    have c03 := (hx.cell (p := ⟨blk, 0, none⟩) hb).trans c0
    have c13 := (hx.cell (p := ⟨blk, 1, none⟩) hb).trans c1
    apply rows_value nextReturned
    case hr =>
      go_simp
      exact ⟨rfl, rfl⟩
    case h =>
      exact h _ _ (by first | exact hx.drew | exact hx)
end Go.Proofs.YbulkdxzcFmt
