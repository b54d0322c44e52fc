/- The law's small callees, by contract. -/
import Derived.Test.YbulkdxzcFmtRows
import Derived.WalkKit
import Derived.WalkSpells
import Derived.WalkLawsBesides
import Derived.OpenShut
import Derived.Deep.OwnRows
import Derived.Deep.DeepCutAuto
import Derived.Deep.CutBlock
import Derived.BigQuiet
import Derived.Deep.QuietTactic
import Derived.Deep.RegionWith
import Derived.Deep.RegionLawGrows
import Derived.StillTailTactics
import Derived.Laws.Rows
namespace Go.Proofs.YbulkdxzcFmt
open Go.RowKit
set_option linter.unusedSimpArgs false
set_option linter.unusedVariables false

def kindOf (k : Int) : Int := if k % 8 < 4 then 3 else k % 46

set_option maxRecDepth 100000 in
theorem akind (k : Int) (w : World) (hk : 0 ≤ k ∧ k ≤ 255) :
    Calls Ybaf.prog 6 #[.int .u8 k] w fun e w' => e = .returned (.int .i64 (kindOf k)) ∧ w = w' := by
  go_enter Ybaf.func6, Ybaf.ntmps6
  by_cases h : k % 8 < 4
  · go_wp2
    go_ret
    exact ⟨by simp [kindOf, h], rfl⟩
  · go_wp2
    go_ret
    exact ⟨by simp only [kindOf]; rw [if_neg (by omega)]; rfl, rfl⟩

/-- A region whose first n operations only read, the rest in the text's order behind them: the world under a name. -/
theorem wp_tail {P : Program} {id : Nat} {Q : Exit → Act → World → Prop} {a : Act} {w : World} {l : List Oper} (n : Nat) (hm : P.follows .mixedOrders = true) (hB : Region.lexTailB .any l.toArray n = true)
    (h : ∀ W : World, W = w.drew → wpStill P l.toArray W (fun a' => wpList P l.toArray Q (l.drop n) a' W) (l.take n) a) : (Code.region id l.toArray true).wp P Q a w :=
  wp_region_still_tail n hm hB (h _ rfl)

/-- A token's five cells. -/
abbrev tokc (k : Int) (t f : ByteArray) (l c : Int) : Array Value := #[.int .i64 k, .string t, .string f, .int .i64 l, .int .i64 c]

set_option maxRecDepth 100000 in
set_option maxHeartbeats 2000000 in
theorem atok (k : Int) (t f : ByteArray) (l c : Int) (w : World) (hk : 0 ≤ k ∧ k ≤ 255) :
    Calls Ybaf.prog 4 #[.agg #[.int .u8 k, .string t, .string f, .int .i64 l, .int .i64 c]] w fun e w' => e = .returned (.agg (tokc (kindOf k) t f l c)) ∧ Below w.heap.size w w' := by
  go_enter Ybaf.func4, Ybaf.ntmps4
  go_upto_region 1 with fail
  refine wp_tail 13 (by kernel_rfl) (by kernel_rfl) fun W hW => ?_
  have c0 : W.cell? ⟨w.heap.size, 0, none⟩ = some (.int .u8 k) := by rw [hW]; go_simp
  have c1 : W.cell? ⟨w.heap.size, 1, none⟩ = some (.string t) := by rw [hW]; go_simp
  have c2 : W.cell? ⟨w.heap.size, 2, none⟩ = some (.string f) := by rw [hW]; go_simp
  have c3 : W.cell? ⟨w.heap.size, 3, none⟩ = some (.int .i64 l) := by rw [hW]; go_simp
  have c4 : W.cell? ⟨w.heap.size, 4, none⟩ = some (.int .i64 c) := by rw [hW]; go_simp
  have HW : Hid (W = _) := hW
  clear hW
  simp only [List.take_succ_cons, List.take_zero, List.drop_succ_cons, List.drop_zero]
  still_step
  still_step
  still_call ((akind k _ hk).mono fun e' w' h => ⟨h.1, h.2.symm⟩)
  repeat still_step
  refine wpStill_nil ?_
  clear c0 c1 c2 c3 c4
  obtain rfl := HW.out
  clear HW
  go_wp2
  refine bodyPost_ret (results_cell_row (p := 2) (ty := 31) (by kernel_rfl) _ _ (w.heap.size + 1) 31 (tokc (kindOf k) t f l c) (0, 0) _ rfl (heap_alloc2_new w _ _) Ybaf.underlying31 rfl (by kernel_rfl)) rfl ?_
  exact ⟨rfl, (((Below.refl _ w).alloc (Nat.le_refl _) _).alloc (by simp) _).drew⟩
end Go.Proofs.YbulkdxzcFmt
