/- bytes.Clone, bytes.Equal, errors.New, newDecoder: by contract. -/
import Derived.Test.YbulkdxzcDoorAll
import Derived.Laws.BytesArg
namespace Go.Proofs.YbulkdxzcDoor
open Go.RowKit
set_option linter.unusedSimpArgs false
set_option linter.unusedVariables false

/-- The bytes as a string. -/
def strD (dv : Nat → Int) (n : Nat) : ByteArray := strOfNums ((List.range n).map dv)
theorem strD_zero (dv : Nat → Int) : strD dv 0 = ByteArray.empty := rfl
theorem conv_at (dv : Nat → Int) (w : World) (b off n cap : Nat) (h : ∀ i, i < n → w.cell? ⟨b, off + i, none⟩ = some (.int .u8 (dv i))) : (convert 22 9 (.slice (some ⟨b, off, none⟩) n cap)).run Ybad.prog w = .ok (.string (strD dv n)) w :=
  run_convert_bytes_arg w 22 5 Ybad.underlying22 Ybad.underlying5 b off n cap _ (by simp) (fun i hi => by rw [h i hi]; simp [List.getD, hi]) 9 Ybad.underlying9
theorem conv_none (w : World) (a : Option Addr) (cap : Nat) : (convert 22 9 (.slice a 0 cap)).run Ybad.prog w = .ok (.string ByteArray.empty) w := by
  cases a with
  | none => exact run_convert_bytes_nil w 22 5 Ybad.underlying22 Ybad.underlying5 0 cap 9 Ybad.underlying9
  | some x =>
    rw [run_convert_bytes_string w 22 9 5 _ 0 cap Ybad.underlying22 Ybad.underlying5 Ybad.underlying9]
    have hl : (loadCells x 0).run Ybad.prog w = .ok #[] w := by
      have := run_loadCells_list (P := Ybad.prog) w x [] (fun j v hj => by simp at hj)
      simpa using this
    rw [run_bytesToString w _ 0 cap [] (by simpa using hl)]
    rfl
theorem conv_data {w : World} {a : Option Addr} {n cap B : Nat} {dv : Nat → Int} (h : Data w a n cap dv B) : (convert 22 9 (.slice a n cap)).run Ybad.prog w = .ok (.string (strD dv n)) w := by
  rcases Nat.eq_zero_or_pos n with rfl | hn
  · rw [strD_zero]; exact conv_none w a cap
  · obtain ⟨b, off, rfl, _, hc⟩ := h.2.2 hn
    exact conv_at dv w b off n cap hc
theorem seg_at {dv : Nat → Int} {k m j : Nat} (h : j < m) : (seg dv k m)[j]? = some (.int .u8 (dv (k + j))) := by simp [seg, h]
theorem conv_own {w : World} {base n : Nat} {v : Value} {dv : Nat → Int} (h : w.ownsRow base 5 1 v n (seg dv 0 n)) : (convert 22 9 v).run Ybad.prog w = .ok (.string (strD dv n)) w := by
  obtain ⟨ao, cap, rfl, ⟨rfl, rfl⟩ | ⟨q, rfl, _, _, hc⟩⟩ := own_form h
  · rw [strD_zero]; exact conv_none w none cap
  · exact conv_at dv w q 0 n cap fun i hi => by rw [Nat.zero_add]; have := hc i _ (seg_at hi); rwa [Nat.zero_add] at this

set_option maxRecDepth 100000 in
theorem equal (v1 v2 : Value) (s : ByteArray) (w : World) (h1 : (convert 22 9 v1).run Ybad.prog w = .ok (.string s) w) (h2 : (convert 22 9 v2).run Ybad.prog w = .ok (.string s) w) :
    Calls Ybad.prog 7 #[v1, v2] w fun e w' => e = .returned (.bool true) ∧ w' = w := by
  go_enter Ybad.func7, Ybad.ntmps7
  go_wp2
  go_ret
  exact ⟨by simp, rfl⟩

set_option maxRecDepth 100000 in
theorem errNew (s : ByteArray) (w : World) :
    Calls Ybad.prog 5 #[.string s] w fun e w' => e = .returned (.iface 48 (.pointer (some ⟨w.heap.size, 0, none⟩))) ∧ w' = w.alloc (.cells #[.string s] 50) := by
  go_enter Ybad.func5, Ybad.ntmps5
  go_wp2
  go_ret
  exact ⟨rfl, rfl⟩

theorem Data.cells {w : World} {x : Addr} {n cap B : Nat} {dv : Nat → Int} (h : Data w (some x) n cap dv B) : ∀ j u, (seg dv 0 n)[j]? = some u → w.cell? (x.add j) = some u := by
  intro j u hj
  have hjn : j < n := by
    obtain ⟨h1, _⟩ := List.getElem?_eq_some_iff.1 hj
    rwa [length_seg] at h1
  obtain ⟨b, off, e, _, hc⟩ := h.2.2 (by omega)
  obtain rfl := Option.some.inj e
  have e2 : (⟨b, off, none⟩ : Addr).add j = ⟨b, off + j, none⟩ := by unfold Addr.add; split <;> simp_all
  rw [e2, hc j hjn]
  rw [seg_at hjn, Nat.zero_add] at hj
  exact hj
theorem eql_nil (n cap : Nat) (w : World) : (binOp .eql 22 (.slice none n cap) (.slice none 0 0)).run Ybad.prog w = .ok (.bool true) w := by kernel_rfl
theorem eql_some (x : Addr) (n cap : Nat) (w : World) : (binOp .eql 22 (.slice (some x) n cap) (.slice none 0 0)).run Ybad.prog w = .ok (.bool false) w := by kernel_rfl

set_option maxRecDepth 100000 in
theorem clone (a : Option Addr) (n cap B : Nat) (dv : Nat → Int) (w : World) (hn : n ≤ 1048576) (hD : Data w a n cap dv B) :
    Calls Ybad.prog 4 #[.slice a n cap] w fun e w' => ∃ v, e = .returned v ∧ w'.ownsRow w.heap.size 5 1 v n (seg dv 0 n) ∧ Below w.heap.size w w' ∧ w.heap.size ≤ w'.heap.size := by
  have HD : Hid (Data w a n cap dv B) := hD
  clear hD
  obtain ⟨i5, hi5, hz0, hz1, hz2⟩ := info_parts info5
  have hq1 := eql_nil
  have hq2 := eql_some
  go_enter Ybad.func4, Ybad.ntmps4
  cases a with
  | none =>
    obtain rfl : n = 0 := by
      rcases Nat.eq_zero_or_pos n with h | h
      · exact h
      · obtain ⟨b, off, e, _⟩ := HD.out.2.2 h; cases e
    go_wp2
    go_ret
    exact ⟨_, rfl, ⟨by simp [seg], .inl ⟨rfl, rfl⟩⟩, Below.refl _ _, Nat.le_refl _⟩
  | some x =>
    go_upto_region 3 with fail
    have hs : ∀ j u, (seg dv 0 n)[j]? = some u → (w.alloc (.cells #[] 5)).cell? (x.add j) = some u := fun j u hj => (((Below.refl w.heap.size w).alloc (Nat.le_refl _) (.cells #[] 5)).cell (lt_of_cell (HD.out.cells j u hj))).trans (HD.out.cells j u hj)
    have HS : Hid _ := hs
    have ho : (w.alloc (.cells #[] 5)).ownsRow w.heap.size 5 1 (.slice (some ⟨w.heap.size, 0, none⟩) 0 0) 0 [] := ⟨rfl, .inr ⟨w.heap.size, 0, #[], rfl, Nat.le_refl _, heap_alloc_new w _, Nat.le_refl _, by unfold maxLen; omega, rfl, rfl⟩⟩
    have HO : Hid ((w.alloc (.cells #[] 5)).ownsRow w.heap.size 5 1 (.slice (some ⟨w.heap.size, 0, none⟩) 0 0) 0 []) := ho
    clear hs ho
    go_wp2_with (at_builtin; refine wpList_append_own _ rfl (.tmp 5) (.tmp 6) 22 rfl w.heap.size 5 i5 (.int .u8 0) 1 1 Ybad.underlying22 hi5 hz0 hz1 hz2 rfl (by decide) _ _ _ rfl HO.out x n cap (seg dv 0 n) rfl (by rw [length_seg, Nat.mul_one]) HS.out (seg_one _ _ _) (by unfold maxLen; omega) (by omega) (by simp) ?_; intro v' w1 hown' hgrow _; have HA : Hid (w1.ownsRow w.heap.size 5 1 v' (0 + n) ([] ++ seg dv 0 n)) := hown'; have HG : Hid _ := hgrow; clear hown' hgrow)
    go_ret
    refine ⟨_, rfl, by have := HA.out; rwa [Nat.zero_add, List.nil_append] at this, ((Below.refl w.heap.size w).alloc (Nat.le_refl _) (.cells #[] 5)).grown HG.out (by simp) (fun k hk => own_block HO.out k hk), by have := HG.out.size; simp at this; omega⟩
end Go.Proofs.YbulkdxzcDoor
