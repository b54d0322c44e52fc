/- The arguments and the listed variables, opened. -/
import Derived.Test.YbulkdxzcFmtWalk
import Derived.Deep.SlicePairs
import Derived.ProofKit
import Derived.MakeChecks
import Derived.Maps.OwnSet
import Derived.WideKeyElems2
import Derived.LaidLaws
import Derived.LaidHandle
namespace Go.Proofs.YbulkdxzcFmt
open Go.ChangeShapes Go.WideShapes Go.ChangeAt Go.RowKit Go.Maps Go.Deep
set_option linter.unusedSimpArgs false
set_option linter.unusedVariables false

/-- The listed variables by name. -/
def nKey : String := Rows.lawS6229AWholeSpec.vars.getD 0 ""
def nOp : String := Rows.lawS6229AWholeSpec.vars.getD 1 ""
theorem gKey : Ybaf.prog.globalNamed nKey = some 0 := by kernel_rfl
theorem gOp : Ybaf.prog.globalNamed nOp = some 1 := by kernel_rfl
theorem tKey : (Ybaf.prog.globals[0]?).map (·.type) = some 55 := by kernel_rfl
theorem tOp : (Ybaf.prog.globals[1]?).map (·.type) = some 56 := by kernel_rfl

/-- An address whose cells are there is a plain one. -/
theorem plain_addr {w : World} {a : Addr} {v : Value} (h : w.cell? a = some v) : ∃ b off, a = ⟨b, off, none⟩ := by
  obtain ⟨b, off, spot⟩ := a
  have hspot : spot = none := by simpa using World.cell?_spot h
  subst hspot
  exact ⟨b, off, rfl⟩

set_option maxRecDepth 100000 in
theorem of_laid {W : World} (h0 : laidMetH Ybaf.prog Rows.lawS6229AWholeRow.laid W) :
    ∃ (H : Type) (bm nm : Nat) (D : DataW H) (bo oo no co : Nat) (ov : Nat → ByteArray) (kv : Nat → Int), Vars H W bm nm D bo oo no co ov kv := by
  rw [MakeChecks.laidMetH_plain _ _ _ (by kernel_rfl)] at h0
  obtain ⟨ps, ⟨g0, t0, cs0, f0, p0, q0, hg0, ht0, hv0, hd0, ⟨g1, t1, cs1, f1, p1, q1, hg1, ht1, hv1, hd1, _, _⟩, _⟩, _, _⟩ := h0
  obtain rfl := Option.some.inj (gKey.symm.trans hg0)
  obtain rfl := Option.some.inj (gOp.symm.trans hg1)
  obtain rfl := Option.some.inj (tKey.symm.trans ht0)
  obtain rfl := Option.some.inj (tOp.symm.trans ht1)
  rcases WideElems.open_map Ybaf.underlying55 hd0 with ⟨_, hx⟩ | ⟨bm, es, clock, m, rfl, hcs, hb, _, F, hx⟩
  · simp [Rows.laid_example_com_cinch_cinch_syntax_keywords] at hx
  have hcell : W.cell? ⟨0, 0, none⟩ = some (.map (some bm)) := by
    have := World.var?_cell hg0 hv0 0
    rw [Array.eq_one_of_toList hcs] at this
    simpa using this
  have hown := World.ownsMap_of_fit (R := plainElem Ybaf.prog 27) hb F (fun x _ z hz => elemAt_plainElem_int Ybaf.underlying27 hz)
  rcases open_slice_pairs Ybaf.underlying56 Ybaf.underlying57 (by kernel_rfl) rfl rfl (by kernel_rfl) (by kernel_rfl) hd1 with ⟨_, hx1⟩ | ⟨a, len, cap, mm, n, V0, V1, D0, D1, P0, P1, hcs1, _, hlc, _, hmm, hx1, hall⟩
  · simp [Rows.laid_example_com_cinch_cinch_syntax_operators] at hx1
  have hlen : len = 28 := by
    simp only [Prod.mk.injEq, Rows.laid_example_com_cinch_cinch_syntax_operators, DataW.slice.injEq] at hx1
    have := congrArg List.length hx1.1.1
    simpa using this.symm
  have hml : len ≤ mm := by rw [hmm]; split <;> omega
  obtain ⟨bo, oo, hx0⟩ := plain_addr (hall 0 (by omega)).1
  obtain ⟨bo, oo, rfl⟩ : ∃ b o, a = ⟨b, o, none⟩ := ⟨bo, oo, by simpa [Addr.add] using hx0⟩
  have hcell1 : W.cell? ⟨1, 0, none⟩ = some (.slice (some ⟨bo, oo, none⟩) len cap) := by
    have := World.var?_cell hg1 hv1 0
    rw [Array.eq_one_of_toList hcs1] at this
    simpa using this
  have hs : ∀ j, j < len → ∃ s : ByteArray, V0 j = .string s := fun j hj => by
    obtain ⟨s, e, _⟩ := DataW.trod_string Ybaf.underlying9 (hall j (by omega)).2.2.1
    exact ⟨s, by simpa using e⟩
  have hk : ∀ j, j < len → ∃ k : Int, V1 j = .int .i64 k := fun j hj => by
    obtain ⟨k, e, _⟩ := DataW.trod_int Ybaf.underlying27 (hall j (by omega)).2.2.2
    exact ⟨k, by simpa using e⟩
  obtain ⟨ov, hov⟩ := choose_lt hs
  obtain ⟨kv, hkv⟩ := choose_lt hk
  refine ⟨_, bm, _, _, bo, oo, len, cap, ov, kv, hcell, hown, hcell1, fun j hj => ?_, by omega⟩
  obtain ⟨h1, h2, _, _⟩ := hall j (by omega)
  rw [add_plain] at h1 h2
  rw [← hov j hj, ← hkv j hj]
  exact ⟨h1, by rw [Nat.add_assoc]; exact h2⟩

theorem cells26 : Ybaf.prog.cellsOf 26 = 5 := by kernel_rfl
theorem cells5 : Ybaf.prog.cellsOf 5 = 1 := by kernel_rfl
theorem cells9 : Ybaf.prog.cellsOf 9 = 1 := by kernel_rfl
theorem cells3 : Ybaf.prog.cellsOf 3 = 1 := by kernel_rfl

set_option maxRecDepth 100000 in
theorem raw_of {H : Type} {enc : TypeId × Value → H} {W : World} {fuel : Nat} {a : Option Addr} {n cap : Nat} {x : DataW H × List MemPlace} (h : DataW.trod enc Ybaf.prog W 0 (fun _ => true) true fuel 22 [.slice a n cap] = some x) :
    n ≤ maxLen ∧ ∃ g, Raw W a n g := by
  rcases open_slice Ybaf.underlying22 h with ⟨h0, _⟩ | ⟨a', len, cap', m, k, D, Pl, hcs, _, hl, hm, hmm, _, hall⟩
  · simp at h0
    obtain ⟨rfl, rfl, rfl⟩ := h0
    exact ⟨by unfold maxLen; omega, fun _ => eof, fun h => by omega⟩
  · simp at hcs
    obtain ⟨rfl, rfl, rfl⟩ := hcs
    simp only [if_true] at hmm
    refine ⟨by omega, ?_⟩
    rw [cells26] at hall
    have each : ∀ i, i < n → ∃ q : Tk, (W.cell? (a'.add (i * 5)) = some (.int .u8 q.k) ∧ W.cell? (a'.add (i * 5 + 1)) = some (.string q.t) ∧ W.cell? (a'.add (i * 5 + 2)) = some (.string q.f) ∧ W.cell? (a'.add (i * 5 + 3)) = some (.int .i64 q.l) ∧ W.cell? (a'.add (i * 5 + 4)) = some (.int .i64 q.c)) ∧ 0 ≤ q.k ∧ q.k ≤ 255 := by
      intro i hi
      obtain ⟨cs', h1, h2⟩ := hall i (by omega)
      obtain ⟨_, hlen, hcell⟩ := World.cells?_some h1
      obtain ⟨xs, k', hk, hxy, _, hxl, hf⟩ := DataW.trod_struct Ybaf.underlying26 h2
      match xs, hxl, cs', hlen with
      | [y0, y1, y2, y3, y4], _, [v0, v1, v2, v3, v4], _ =>
        have g0 := hf 0 _ rfl
        have g1 := hf 1 _ rfl
        have g2 := hf 2 _ rfl
        have g3 := hf 3 _ rfl
        have g4 := hf 4 _ rfl
        simp [cells5, cells9, cells3] at g0 g1 g2 g3 g4
        obtain ⟨z0, e0, _, w0⟩ := DataW.trod_int Ybaf.underlying5 g0
        obtain ⟨z1, e1, _⟩ := DataW.trod_string Ybaf.underlying9 g1
        obtain ⟨z2, e2, _⟩ := DataW.trod_string Ybaf.underlying9 g2
        obtain ⟨z3, e3, _, w3⟩ := DataW.trod_int Ybaf.underlying3 g3
        obtain ⟨z4, e4, _, w4⟩ := DataW.trod_int Ybaf.underlying3 g4
        simp at e0 e1 e2 e3 e4
        subst e0 e1 e2 e3 e4
        have c0 := hcell 0 (by omega)
        have c1 := hcell 1 (by omega)
        have c2 := hcell 2 (by omega)
        have c3 := hcell 3 (by omega)
        have c4 := hcell 4 (by omega)
        rw [add_add] at c0 c1 c2 c3 c4
        exact ⟨⟨z0, z1, z2, z3, z4⟩, ⟨by simpa using c0, by simpa using c1, by simpa using c2, by simpa using c3, by simpa using c4⟩, bounds_u8 w0⟩
    have hin : Inhabited Tk := ⟨eof⟩
    obtain ⟨g, hg⟩ := choose_lt each
    refine ⟨g, fun hn => ?_⟩
    obtain ⟨b, off, hx0⟩ := plain_addr (hg 0 hn).1.1
    obtain ⟨b, off, rfl⟩ : ∃ b o, a' = ⟨b, o, none⟩ := ⟨b, off, by simpa [Addr.add] using hx0⟩
    refine ⟨b, off, rfl, ?_, fun i hi => ?_⟩
    · have := lt_of_cell (hg 0 hn).1.1
      simpa [Addr.add] using this
    · obtain ⟨⟨c0, c1, c2, c3, c4⟩, hb⟩ := hg i hi
      rw [add_plain] at c0 c1 c2 c3 c4
      exact ⟨c0, by rw [Nat.add_assoc]; exact c1, by rw [Nat.add_assoc]; exact c2, by rw [Nat.add_assoc]; exact c3, by rw [Nat.add_assoc]; exact c4, hb⟩
end Go.Proofs.YbulkdxzcFmt
