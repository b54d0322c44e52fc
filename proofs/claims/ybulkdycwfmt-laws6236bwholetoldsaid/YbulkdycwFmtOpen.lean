/- The arguments and the listed variable, opened. -/
import Derived.Test.YbulkdycwFmtMain
import Derived.Deep.Strs
import Derived.Deep.SlicePairs
import Derived.ProofKit
import Derived.MakeChecks
import Derived.LaidLaws
import Derived.LaidHandle
namespace Go.Proofs.YbulkdycwFmt
open Go.ChangeShapes Go.WideShapes Go.ChangeAt Go.RowKit Go.Deep
set_option linter.unusedSimpArgs false
set_option linter.unusedVariables false

/-- The listed variable by name. -/
def nFields : String := Rows.lawS6236BWholeSpec.vars.getD 0 ""
theorem gFields : Ybaf.prog.globalNamed nFields = some 1 := by kernel_rfl
theorem tFields : (Ybaf.prog.globals[1]?).map (·.type) = some 73 := by kernel_rfl
theorem cells72 : Ybaf.prog.cellsOf 72 = 3 := by kernel_rfl
theorem cells37 : Ybaf.prog.cellsOf 37 = 1 := by kernel_rfl
theorem cells3 : Ybaf.prog.cellsOf 3 = 1 := by kernel_rfl
theorem cells9 : Ybaf.prog.cellsOf 9 = 1 := by kernel_rfl
theorem cells73 : Ybaf.prog.cellsOf 73 = 48 := by kernel_rfl
theorem cells5 : Ybaf.prog.cellsOf 5 = 1 := by kernel_rfl

/-- The list that the datum holds. -/
def parts {H : Type} : DataW H → List (DataW H)
  | .agg l => l
  | _ => []
theorem laid_at {H : Type} (i : Nat) (hi : i < 16) : ∃ s, (parts (Rows.laid_example_com_hopmark_hopmark_nodeFields (H := H)))[i]? = some (.agg [.lit (.int .u32 ((2 ^ (23 - fbit i) : Nat) : Int)), .lit (.int .i64 (fsz i)), .lit (.string s)]) := by
  match i, hi with
  | 0, _ => exact ⟨_, rfl⟩
  | 1, _ => exact ⟨_, rfl⟩
  | 2, _ => exact ⟨_, rfl⟩
  | 3, _ => exact ⟨_, rfl⟩
  | 4, _ => exact ⟨_, rfl⟩
  | 5, _ => exact ⟨_, rfl⟩
  | 6, _ => exact ⟨_, rfl⟩
  | 7, _ => exact ⟨_, rfl⟩
  | 8, _ => exact ⟨_, rfl⟩
  | 9, _ => exact ⟨_, rfl⟩
  | 10, _ => exact ⟨_, rfl⟩
  | 11, _ => exact ⟨_, rfl⟩
  | 12, _ => exact ⟨_, rfl⟩
  | 13, _ => exact ⟨_, rfl⟩
  | 14, _ => exact ⟨_, rfl⟩
  | 15, _ => exact ⟨_, rfl⟩
  | i + 16, h => exact absurd h (by omega)

set_option maxRecDepth 100000 in
theorem of_laid {W : World} (h0 : laidMetH Ybaf.prog Rows.lawS6236BWholeRow.laid W) : ∃ nv, Table W nv := by
  rw [MakeChecks.laidMetH_plain _ _ _ (by kernel_rfl)] at h0
  obtain ⟨ps, ⟨g0, t0, cs0, f0, p0, q0, hg0, ht0, hv0, hd0, _, _⟩, _, _⟩ := h0
  obtain rfl := Option.some.inj (gFields.symm.trans hg0)
  obtain rfl := Option.some.inj (tFields.symm.trans ht0)
  obtain ⟨xs, m, hm, hx, hlen, hxl, hall⟩ := DataW.trod_array Ybaf.underlying73 hd0
  have each : ∀ i, i < 16 → ∃ s : ByteArray, W.cell? ⟨1, i * 3, none⟩ = some (.int .u32 ((2 ^ (23 - fbit i) : Nat) : Int)) ∧ W.cell? ⟨1, i * 3 + 1, none⟩ = some (.int .i64 (fsz i)) ∧ W.cell? ⟨1, i * 3 + 2, none⟩ = some (.string s) := by
    intro i hi
    have hc : ∀ j, W.cell? ⟨1, j, none⟩ = cs0[j]? := fun j => World.var?_cell hg0 hv0 j
    have h1 := hall i hi
    obtain ⟨x, hxi⟩ : ∃ x, xs[i]? = some x := ⟨_, List.getElem?_eq_getElem (by omega)⟩
    rw [hxi, cells72] at h1
    obtain ⟨y0, y1, y2, k, hxe, hl3, g0, g1, g2⟩ := trod_struct3 Ybaf.underlying72 h1
    obtain ⟨s, hs⟩ := laid_at (H := Unit) i hi
    have hlaid : Rows.laid_example_com_hopmark_hopmark_nodeFields (H := Unit) = .agg (xs.map (·.1)) := congrArg Prod.fst hx
    rw [hlaid] at hs
    have hs2 : (xs.map (·.1))[i]? = some (.agg [.lit (.int .u32 ((2 ^ (23 - fbit i) : Nat) : Int)), .lit (.int .i64 (fsz i)), .lit (.string s)]) := hs
    rw [List.getElem?_map, hxi, hxe] at hs2
    simp only [Option.map_some, Option.some.injEq, DataW.agg.injEq, List.cons.injEq, and_true] at hs2
    obtain ⟨s0, s1, s2⟩ := hs2
    rw [cells72] at hl3
    obtain ⟨u0, u1, u2, hvs⟩ : ∃ u0 u1 u2, List.take 3 (List.drop (i * 3) cs0.toList) = [u0, u1, u2] := by
      match List.take 3 (List.drop (i * 3) cs0.toList), hl3 with
      | [u0, u1, u2], _ => exact ⟨u0, u1, u2, rfl⟩
      | [], h => simp at h
      | [_], h => simp at h
      | [_, _], h => simp at h
      | _ :: _ :: _ :: _ :: _, h => simp at h
    have hat : ∀ j, j < 3 → W.cell? ⟨1, i * 3 + j, none⟩ = ([u0, u1, u2] : List Value)[j]? := fun j hj => by
      rw [hc, ← hvs, List.getElem?_take_of_lt hj, List.getElem?_drop]
      simp
    rw [hvs] at g0 g1 g2
    simp only [cells37, cells3, cells9, List.drop_zero, List.drop_succ_cons, List.take_succ_cons, List.take_zero] at g0 g1 g2
    obtain ⟨z0, e0, r0, _⟩ := DataW.trod_int Ybaf.underlying37 g0
    obtain ⟨z1, e1, r1, _⟩ := DataW.trod_int Ybaf.underlying3 g1
    obtain ⟨z2, e2, _⟩ := DataW.trod_string Ybaf.underlying9 g2
    simp at e0 e1 e2
    subst e0 e1 e2
    subst r0 r1
    simp at s0 s1
    subst s0 s1
    exact ⟨z2, hat 0 (by omega), hat 1 (by omega), hat 2 (by omega)⟩
  obtain ⟨nv, hnv⟩ := choose_lt each
  exact ⟨nv, fun i hi => hnv i hi⟩

set_option maxRecDepth 100000 in
theorem body_of {H : Type} {enc : TypeId × Value → H} {W : World} {fuel : Nat} {a : Option Addr} {n cap : Nat} {x : DataW H × List MemPlace} (h : DataW.trod enc Ybaf.prog W 0 (fun _ => true) true fuel 24 [.slice a n cap] = some x) :
    n ≤ cap ∧ ∃ bv, Bytes bv ∧ OBs W a n bv 0 := by
  rcases open_slice Ybaf.underlying24 h with ⟨h0, _⟩ | ⟨a', len, cap', m, k, D, Pl, hcs, _, hl, hm, hmm, _, hall⟩
  · simp at h0
    obtain ⟨rfl, rfl, rfl⟩ := h0
    exact ⟨Nat.le_refl _, fun _ => 0, fun _ => ⟨Int.le_refl 0, by show (0 : Int) ≤ 255; omega⟩, fun h => by omega⟩
  · simp at hcs
    obtain ⟨rfl, rfl, rfl⟩ := hcs
    simp only [if_true] at hmm
    refine ⟨hl, ?_⟩
    rw [cells5] at hall
    have each : ∀ i, i < n → ∃ q : Int, W.cell? (a'.add i) = some (.int .u8 q) ∧ 0 ≤ q ∧ q ≤ 255 := by
      intro i hi
      obtain ⟨cs', h1, h2⟩ := hall i (by omega)
      obtain ⟨_, hlen, hcell⟩ := World.cells?_some h1
      obtain ⟨z0, e0, _, w0⟩ := DataW.trod_int Ybaf.underlying5 h2
      subst e0
      have c0 := hcell 0 (by simp)
      rw [add_add] at c0
      refine ⟨z0, by simpa using c0, ?_⟩
      simp [Lit.wf, IntKind.min, IntKind.max, IntKind.bits, IntKind.signed] at w0
      omega
    obtain ⟨bv, hbv⟩ := choose_lt each
    refine ⟨fun i => if i < n then bv i else 0, fun i => ?_, fun hn => ⟨a', rfl, fun i hi => ?_⟩⟩
    · show 0 ≤ (if i < n then bv i else 0) ∧ (if i < n then bv i else 0) ≤ 255
      split
      · rename_i hi
        exact (hbv i hi).2
      · omega
    · show _ = some (Value.int .u8 (if 0 + i < n then bv (0 + i) else 0))
      rw [Nat.zero_add, if_pos hi]
      exact (hbv i hi).1
end Go.Proofs.YbulkdycwFmt
