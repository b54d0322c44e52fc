/- kind.String: some string, whatever the kind; nothing old turned. -/
import Derived.Test.YbulkdxzcFmtFacts
import Derived.Maps.RangeWalk
import Derived.Maps.Own
import Derived.Sort.EncStr
import Derived.Sort.KeysCollected
namespace Go.Proofs.YbulkdxzcFmt
open Go.RowKit Go.Maps
open Go.Extern.Stop Go.Stop Go.Extern
set_option linter.unusedSimpArgs false
set_option linter.unusedVariables false

theorem law9 : Keyed Ybaf.prog 9 := string_keyed Ybaf.underlying9

/-- What is known of the two listed variables. -/
structure Vars (H : Type) (w : World) (bm nm : Nat) (D : DataW H) (bo oo no co : Nat) (ov : Nat → ByteArray) (kv : Nat → Int) : Prop where
  mc : w.cell? ⟨0, 0, none⟩ = some (.map (some bm))
  own : w.ownsMap Ybaf.prog 9 (plainElem Ybaf.prog 27) bm nm D
  oc : w.cell? ⟨1, 0, none⟩ = some (.slice (some ⟨bo, oo, none⟩) no co)
  ops : ∀ j, j < no → w.cell? ⟨bo, oo + j * 2, none⟩ = some (.string (ov j)) ∧ w.cell? ⟨bo, oo + j * 2 + 1, none⟩ = some (.int .i64 (kv j))
  no1 : no ≤ 100

set_option maxRecDepth 100000 in
set_option maxHeartbeats 2000000 in
theorem kstr {H : Type} (F : Interp) (k : Int) (bm nm : Nat) (D : DataW H) (bo oo no co : Nat) (ov : Nat → ByteArray) (kv : Nat → Int) (w : World) (hF : F.answers w.tape) (hV : Vars H w bm nm D bo oo no co ov kv) :
    Calls Ybaf.prog 10 #[.int .i64 k] w fun e w' => (∃ s, e = .returned (.string s)) ∧ Below w.heap.size w w' := by
  have HV : Hid (Vars H w bm nm D bo oo no co ov kv) := hV
  have HF : Hid (F.answers w.tape) := hF
  have mc := hV.mc
  clear hV hF
  go_enter Ybaf.func10, Ybaf.ntmps10
  by_cases h0 : k = 0
  · subst h0; go_wp2; go_ret; exact ⟨⟨_, rfl⟩, Below.refl _ _⟩
  by_cases h2 : k = 2
  · subst h2; go_wp2; go_ret; exact ⟨⟨_, rfl⟩, Below.refl _ _⟩
  by_cases h3 : k = 3
  · subst h3; go_wp2; go_ret; exact ⟨⟨_, rfl⟩, Below.refl _ _⟩
  by_cases h4 : k = 4
  · subst h4; go_wp2; go_ret; exact ⟨⟨_, rfl⟩, Below.refl _ _⟩
  have g0 : (k == 0) = false := by simpa using h0
  have g2 : (k == 2) = false := by simpa using h2
  have g3 : (k == 3) = false := by simpa using h3
  have g4 : (k == 4) = false := by simpa using h4
  clear h0 h2 h3 h4
  go_wp2_with (first | (at_range; refine wpList_range_own _ rfl _ 55 rfl 9 27 law9 Ybaf.underlying55 _ bm nm D rfl HV.out.own ?_; intro w0 hrg0 hg0 hs0) | go_in)
  go_frame
  have HB0 : Hid (Below w.heap.size w w0) := (Below.refl _ _).grown hg0 (Nat.le_refl _) (fun j hj => by cases hj)
  have HR0 : Hid (w0.ranges Ybaf.prog 9 (plainElem Ybaf.prog 27) bm w.heap.size nm D (Maps.has D) (Maps.size D)) := hrg0
  have hz0 : w.heap.size ≤ w0.heap.size := by omega
  clear hrg0 hg0 hs0 mc
  go_loopw [3, 4] (fun _ _ wr => ∃ left cnt, wr.ranges Ybaf.prog 9 (plainElem Ybaf.prog 27) bm w.heap.size nm D left cnt ∧ Below w.heap.size w wr ∧ w.heap.size ≤ wr.heap.size) (fun _ _ wr => wr.rangeLeft bm w.heap.size)
  case atStart => exact ⟨_, _, HR0.out, HB0.out, hz0⟩
  case round =>
    obtain ⟨left, cnt, hrg, hbel, hsz⟩ := hrel
    have HRG : Hid (wr.ranges Ybaf.prog 9 (plainElem Ybaf.prog 27) bm w.heap.size nm D left cnt) := hrg
    have HL : Hid (Below w.heap.size w wr) := hbel
    clear hrg hbel HB0 HR0 hz0
    go_wp2_with (first
      | (at_next; refine wpList_next_ranges _ rfl _ rfl 9 law9 (plainElem Ybaf.prog 27) encStr (Value.int .i64) (fun key kl hk => by obtain ⟨x, hx, _⟩ := Maps.keyOf_str Ybaf.underlying9 hk; exact ⟨x, hx⟩) (fun v y hv => by obtain ⟨c, rfl, _⟩ := plainElem_int_inv Ybaf.underlying27 hv; exact ⟨c, rfl⟩) bm w.heap.size nm _ _ _ rfl HRG.out ?_ ?_)
      | go_in)
    · intro _ _
      have hop : wr.cell? ⟨1, 0, none⟩ = some (.slice (some ⟨bo, oo, none⟩) no co) := (HL.out.cell (p := ⟨1, 0, none⟩) (lt_of_cell HV.out.oc)).trans HV.out.oc
      have hno := HV.out.no1
      go_wp2_with fail
      obtain ⟨wo, rfl⟩ : ∃ wo : World, wo = wr := ⟨_, rfl⟩
      clear HRG hop
      go_loopw [29] (fun iv wx => ∃ j : Nat, j ≤ no ∧ iv = .int .i64 j ∧ Below w.heap.size w wx ∧ w.heap.size ≤ wx.heap.size) (fun iv _ => no - (intOf iv).toNat)
      case atStart => exact ⟨0, by omega, rfl, HL.out, hsz⟩
      case round =>
        obtain ⟨j, hj, rfl, hbel, hsz3⟩ := hrel
        have HL3 : Hid (Below w.heap.size w wr) := hbel
        clear hbel HL
        by_cases hlt : j < no
        · have hlt' : (j : Int) < (no : Int) := by omega
          have e0 := (HL3.out.cell (p := ⟨bo, oo + j * 2, none⟩) (lt_of_cell (HV.out.ops j hlt).1)).trans (HV.out.ops j hlt).1
          have e1 := (HL3.out.cell (p := ⟨bo, oo + j * 2 + 1, none⟩) (lt_of_cell (HV.out.ops j hlt).2)).trans (HV.out.ops j hlt).2
          by_cases hc : kv j = k
          · rw [hc] at e1
            go_wp2
            go_ret
            exact ⟨⟨_, rfl⟩, HL3.out.alloc hsz3 _⟩
          · have hc' : (kv j == k) = false := by simpa using hc
            go_wp2
            go_roundw
            case rel => exact ⟨j + 1, by omega, by go_num, HL3.out.alloc hsz3 _, by simp; omega⟩
            case measure => simp [intOf]; omega
        · have hlt' : ¬ (j : Int) < (no : Int) := by omega
          have hF' := answers_open (show F.answers wr.tape by rw [HL3.out.tape]; exact HF.out)
          have q1 := call12
          have q2 := guarded
          have q3 := fmtTok
          have q4 := act3
          have q5 := op3
          go_wp2
          apply rows_value nextTurns
          case hr =>
            go_simp
            exact ⟨rfl, rfl⟩
          case h =>
            go_wp2
            go_ret
            exact ⟨⟨_, rfl⟩, (HL3.out.alloc hsz3 _).drew⟩
    · intro x c kl yd yp w2 cnt2 hkey hlk hv hat hrg2 hlt hg2 hs2 hen
      have HL2 : Hid (Below w.heap.size w w2) := HL.out.grown hg2 hsz (fun j hj => by cases hj; exact Nat.le_refl _)
      have HR2 : Hid (w2.ranges Ybaf.prog 9 (plainElem Ybaf.prog 27) bm w.heap.size nm D _ cnt2) := hrg2
      have hsz2 : w.heap.size ≤ w2.heap.size := by omega
      clear hkey hlk hv hat hrg2 hg2 hs2
      by_cases hc : c = k
      · subst hc
        go_wp2
        go_ret
        exact ⟨⟨_, rfl⟩, HL2.out⟩
      · have hc' : (c == k) = false := by simpa using hc
        go_wp2
        go_roundw
        case rel => exact ⟨_, _, HR2.out, HL2.out, hsz2⟩
        case measure => rw [HR2.out.left_eq, HRG.out.left_eq]; omega
end Go.Proofs.YbulkdxzcFmt
