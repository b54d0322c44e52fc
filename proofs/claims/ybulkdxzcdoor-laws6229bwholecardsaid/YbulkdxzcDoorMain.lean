/- The law, walked. -/
import Derived.Test.YbulkdxzcDoorFacts
namespace Go.Proofs.YbulkdxzcDoor
open Go.RowKit
set_option linter.unusedSimpArgs false
set_option linter.unusedVariables false

/-- Behind newDecoder. -/
def Aft (n cap0 s : Nat) (a0 : Option Addr) (dv : Nat → Int) (fail wd : Bool) (orig : Value) (es : Addr) (R : Nat) (fp : Option Addr) (w : World) (dp ev : Value) (wx : World) : Prop :=
  Data wx a0 n cap0 dv w.heap.size ∧ wx.ownsRow w.heap.size 5 1 orig n (seg dv 0 n) ∧ Below w.heap.size w wx ∧ wx.cell? ⟨R, 1, none⟩ = some (.int .i64 n) ∧
  if fail = true then dp = .pointer none ∧ ev = .iface 48 (.pointer (some es))
  else ∃ M D ao cv, dp = .pointer (some ⟨D, 0, none⟩) ∧ ev = .nilIface ∧ L n M D cv dv orig ao fp w wx ∧ wx.ownsRow w.heap.size 5 1 (.slice ao n cv) n (seg dv 0 n)

theorem Aft.of {n cap0 s : Nat} {a0 : Option Addr} {dv : Nat → Int} {fail wd : Bool} {orig : Value} {es : Addr} {R : Nat} {fp : Option Addr} {w wx w1 w2 : World} {v dp ev : Value} (hD : Data w a0 n cap0 dv w.heap.size) (h : St n cap0 s a0 dv fail wd orig es R w wx)
    (hd : Rdone R n #[.slice a0 n cap0, .int .i64 n, .int .i64 s, .bool fail, .bool wd, .iface 48 (.pointer (some es))] dv v wx w1)
    (hif : if fail = true then (dp = .pointer none ∧ ev = .iface 48 (.pointer (some es))) ∧ w2 = w1 else (dp = .pointer (some ⟨w1.heap.size, 0, none⟩) ∧ ev = .nilIface) ∧ w2 = w1.alloc (.cells #[v, .int .i64 0, .pointer fp, .slice none 0 0, .slice none 0 0] 46)) :
    Aft n cap0 s a0 dv fail wd orig es R fp w dp ev w2 := by
  have hz := hd.size
  have hb := h.bel.trans (hd.below _ h.NR)
  have hs := h.size
  cases fail with
  | true =>
    simp only [if_true] at hif
    obtain ⟨⟨rfl, rfl⟩, rfl⟩ := hif
    exact ⟨hD.keep hb, own_off h.own h.rd hd.other, hb, cell_of hd.rd rfl, by simp⟩
  | false =>
    simp only [Bool.false_eq_true, if_false] at hif
    obtain ⟨⟨rfl, rfl⟩, rfl⟩ := hif
    obtain ⟨ao, cv, rfl, _⟩ := own_form hd.own
    have hb2 := hb.alloc (show w.heap.size ≤ w1.heap.size by omega) (.cells #[.slice ao n cv, .int .i64 0, .pointer fp, .slice none 0 0, .slice none 0 0] 46)
    have hL := L.start h hd fp
    refine ⟨hD.keep hb2, hL.own, hb2, ?_, ?_⟩
    · have hR := lt_of_heap hd.rd
      refine cell_of ((Below.heap_alloc _ _ _ hR).trans hd.rd) rfl
    · simp only [Bool.false_eq_true, if_false]
      exact ⟨_, _, ao, cv, rfl, trivial, hL, own_base (hd.own.alloc _) hs⟩

set_option maxRecDepth 100000 in
set_option maxHeartbeats 2000000 in
theorem walk (a0 : Option Addr) (n cap0 : Nat) (st : Int) (fail wd nf : Bool) (dv : Nat → Int) (ea : Addr) (ce : Array Value) (te : TypeId) (w : World) (hw0 : 0 < w.heap.size)
    (hst : 0 ≤ st ∧ st ≤ 255) (hD : Data w a0 n cap0 dv w.heap.size) (he : w.cell? ⟨0, 0, none⟩ = some (.iface 48 (.pointer (some ea)))) (hb : w.heap[ea.block]? = some (.cells ce te (0, 0))) :
    Calls Ybad.prog 3 #[.slice a0 n cap0, .int .u8 st, .bool fail, .bool wd, .bool nf] w fun e w' => e = .returned (.bool true) ∧ Below w.heap.size w w' := by
  have HD : Hid (Data w a0 n cap0 dv w.heap.size) := hD
  have HE : Hid (w.cell? ⟨0, 0, none⟩ = some (.iface 48 (.pointer (some ea)))) := he
  have HB : Hid (w.heap[ea.block]? = some (.cells ce te (0, 0))) := hb
  have hcM : n ≤ 9223372036854775807 := by have := hD.1; have := hD.2.1; unfold maxLen at this; omega
  obtain ⟨s, hs0⟩ : ∃ s : Nat, st % 16 + 1 = (s : Int) := ⟨(st % 16 + 1).toNat, by omega⟩
  have HS0 : Hid (st % 16 + 1 = (s : Int)) := hs0
  have hs1 : 1 ≤ s ∧ s ≤ 16 := by omega
  clear hD he hb hs0
  go_enter Ybad.func3, Ybad.ntmps3
  by_cases hn : 1048576 < n
  · have hn' : (1048576 : Int) < (n : Int) := by omega
    go_wp2
    go_ret
    exact ⟨by simp, Below.refl _ _⟩
  · have hn' : ¬ (1048576 : Int) < (n : Int) := by omega
    have hn2 : n ≤ 1048576 := by omega
    obtain ⟨fz, hfz⟩ : ∃ b : Bool, b = nf := ⟨_, rfl⟩
    cases nf
    all_goals
      go_upto_region 9 with (first | (go_at_call 4; refine (clone a0 n cap0 _ dv _ (by omega) HD.out).mono ?_; rintro e' w1 ⟨v, rfl, hown, hbel, hsz⟩; obtain ⟨ao, cv, rfl, _⟩ := own_form hown; have HO : Hid (w1.ownsRow w.heap.size 5 1 (.slice ao n cv) n (seg dv 0 n)) := hown; have HL : Hid (Below w.heap.size w w1) := hbel; clear hown hbel) | (go_at_call 5; refine (errNew _ _).mono ?_; rintro e' w2 ⟨rfl, rfl⟩))
      go_cut [15, 16] (fun dp ev wx => Aft n cap0 s a0 dv fail wd (.slice ao n cv) ⟨w1.heap.size, 0, none⟩ (w1.heap.size + 1) (if fz = true then none else some ⟨w1.heap.size + 1 + 1, 0, none⟩) w dp ev wx)
      case first =>
        have hS := St.start n cap0 s a0 dv fail wd (.slice ao n cv) ⟨#[122, 122, 115, 54, 50, 50, 57, 98, 32, 102, 97, 105, 108, 117, 114, 101]⟩ _ w w1 HS0.out HO.out HL.out hsz
        have HS1 : Hid (St n cap0 s a0 dv fail wd (.slice ao n cv) ⟨w1.heap.size, 0, none⟩ (w1.heap.size + 1) w _) := hS
        have HS2 : Hid (St n cap0 s a0 dv fail wd (.slice ao n cv) ⟨w1.heap.size, 0, none⟩ (w1.heap.size + 1) w _) := hS.alloc (.cells #[.pointer none, .int .i64 0, .slice none 0 0, .int .i64 0, .int .u64 0, .slice none 0 0] 38)
        clear hS
        subst hfz
        first
        | (go_wp2_with (go_at_call 6; refine (newDecoder (w1.heap.size + 1) cap0 n s a0 dv fail wd ea ⟨w1.heap.size, 0, none⟩ _ _ w.heap.size hn2 hs1 (HD.out.keep HS1.out.bel) HS1.out.NR (lt_of_heap HS1.out.rd) (by omega) HS1.out.rd ((HS1.out.bel.cell (p := ⟨0, 0, none⟩) hw0).trans HE.out) (HS1.out.ne HB.out)).mono ?_; rintro e' w3 ⟨v3, w4, hd, hif⟩; have HF : Hid (Rdone _ _ _ _ _ _ _) := hd; clear hd; cases fail <;> (simp only [Bool.false_eq_true, if_true, if_false] at hif; obtain ⟨rfl, rfl⟩ := hif))
           all_goals
             go_meet
             case rel => exact Aft.of HD.out HS1.out HF.out (by simp))
        | (go_wp2_with (go_at_call 6; refine (newDecoder (w1.heap.size + 1) cap0 n s a0 dv fail wd ea ⟨w1.heap.size, 0, none⟩ _ _ w.heap.size hn2 hs1 (HD.out.keep HS2.out.bel) HS2.out.NR (lt_of_heap HS2.out.rd) (by omega) HS2.out.rd ((HS2.out.bel.cell (p := ⟨0, 0, none⟩) hw0).trans HE.out) (HS2.out.ne HB.out)).mono ?_; rintro e' w3 ⟨v3, w4, hd, hif⟩; have HF : Hid (Rdone _ _ _ _ _ _ _) := hd; clear hd; cases fail <;> (simp only [Bool.false_eq_true, if_true, if_false] at hif; obtain ⟨rfl, rfl⟩ := hif))
           all_goals
             go_meet
             case rel => exact Aft.of HD.out HS2.out HF.out (by simp))
      case rest =>
        obtain ⟨hDc, hown, hbel, hpos, hif⟩ := hcut
        have HC1 : Hid ((convert 22 9 (.slice a0 n cap0)).run Ybad.prog wc = .ok (.string (strD dv n)) wc) := conv_data hDc
        have HC2 : Hid ((convert 22 9 (.slice ao n cv)).run Ybad.prog wc = .ok (.string (strD dv n)) wc) := conv_own hown
        have HL2 : Hid (Below w.heap.size w wc) := hbel
        clear hDc hown hbel HS0
        subst hfz
        cases fail
        · simp only [Bool.false_eq_true, if_false] at hif
          obtain ⟨M, D, bo, cb, rfl, rfl, hL, hvo⟩ := hif
          have HC3 : Hid ((convert 22 9 (.slice bo n cb)).run Ybad.prog wc = .ok (.string (strD dv n)) wc) := conv_own hvo
          have hd0 := cell_of (i := 0) hL.dec rfl
          have hd1 := cell_of (i := 1) hL.dec rfl
          have hd2 := cell_of (i := 2) hL.dec rfl
          have hd3 := cell_of (i := 3) hL.dec rfl
          have hd4 := cell_of (i := 4) hL.dec rfl
          have HLL : Hid (L n M D cb dv (.slice ao n cv) bo _ w wc) := hL
          have hq1 := neq_field
          have hq2 := eql_dec
          clear hvo hL
          go_wp2_with (go_at_call 7; (first | refine (equal _ _ _ _ HC1.out HC2.out).mono ?_ | refine (equal _ _ _ _ HC3.out HC2.out).mono ?_); rintro e' w5 ⟨rfl, rfl⟩)
          obtain ⟨fp, HLM⟩ : ∃ fp, Hid (L n M D cb dv (.slice ao n cv) bo fp w w5) := ⟨_, HLL⟩
          clear HLL hd0 hd1 hd2 hd3 hd4 hpos HC1 HC2 HC3 HL2 HO HL
          go_loopw [17] (fun iv wx => ∃ i : Nat, i ≤ n ∧ iv = .int .i64 i ∧ L n M D cb dv (.slice ao n cv) bo fp w wx) (fun iv _ => n - (intOf iv).toNat)
          case atStart => exact ⟨0, by omega, rfl, HLM.out⟩
          case round =>
            obtain ⟨i, hin, rfl, hL⟩ := hrel
            clear HLM
            have HLM : Hid (L n M D cb dv (.slice ao n cv) bo fp w wr) := hL
            by_cases hi : i < n
            · obtain ⟨q, x, rfl, hcell, hfr⟩ := hL.cell hi
              have hd0 := cell_of (i := 0) hL.dec rfl
              have hlt : (i : Int) < (n : Int) := by omega
              clear hL
              go_wp2
              go_roundw
              case rel => exact ⟨i + 1, by omega, by go_num, HLM.out.next rfl hi _⟩
              case measure => simp [intOf]; omega
            · have hlt : ¬ (i : Int) < (n : Int) := by omega
              have hd0 := cell_of (i := 0) hL.dec rfl
              have HC1 : Hid ((convert 22 9 (.slice a0 n cap0)).run Ybad.prog wr = .ok (.string (strD dv n)) wr) := conv_data (HD.out.keep hL.bel)
              have HC2 : Hid ((convert 22 9 (.slice ao n cv)).run Ybad.prog wr = .ok (.string (strD dv n)) wr) := conv_own hL.own
              clear hL
              go_wp2_with (go_at_call 7; refine (equal _ _ _ _ HC1.out HC2.out).mono ?_; rintro e' w6 ⟨rfl, rfl⟩)
              go_ret
              exact ⟨by simp, HLM.out.bel⟩
        · simp only [if_true] at hif
          obtain ⟨rfl, rfl⟩ := hif
          have hq := eql_same
          go_wp2_with (go_at_call 7; refine (equal _ _ _ _ HC1.out HC2.out).mono ?_; rintro e' w5 ⟨rfl, rfl⟩)
          go_ret
          exact ⟨by simp, HL2.out⟩
end Go.Proofs.YbulkdxzcDoor
