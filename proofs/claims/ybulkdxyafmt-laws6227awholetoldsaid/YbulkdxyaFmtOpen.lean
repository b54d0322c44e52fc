/- The law's arguments, opened. -/
import Derived.Test.YbulkdxyaFmtState
import Derived.Deep.SlicePairs
import Derived.ProofKit
import Derived.MakeChecks
namespace Go.Proofs.YbulkdxyaFmt
open Go.ChangeShapes Go.WideShapes Go.ChangeAt Go.RowKit Go.Deep
set_option linter.unusedSimpArgs false
set_option linter.unusedVariables false

theorem cells30 : Ybaf.prog.cellsOf 30 = 1 := by kernel_rfl
theorem cells105 : Ybaf.prog.cellsOf 105 = 4 := by kernel_rfl
theorem cells4 : Ybaf.prog.cellsOf 4 = 1 := by kernel_rfl
theorem add_add (a : Addr) (i j : Nat) : (a.add i).add j = a.add (i + j) := by
  unfold Addr.add
  by_cases hi : i = 0 <;> by_cases hj : j = 0 <;> simp [hi, hj, Nat.add_assoc]
theorem add_flat (b o i : Nat) : (⟨b, o, none⟩ : Addr).add i = ⟨b, o + i, none⟩ := by
  unfold Addr.add
  by_cases hi : i = 0 <;> simp [hi]
/-- An address whose cells are there is a plain one. -/
theorem plain_addr {w : World} {a : Addr} {v : Value} (h : w.cell? a = some v) : ∃ b off, a = ⟨b, off, none⟩ := by
  obtain ⟨b, off, spot⟩ := a
  have hspot : spot = none := by simpa using World.cell?_spot h
  subst hspot
  exact ⟨b, off, rfl⟩

set_option maxRecDepth 100000 in
theorem ids_of {H : Type} {enc : TypeId × Value → H} {W : World} {fuel : Nat} {a : Option Addr} {n cap : Nat} {x : DataW H × List MemPlace} (h : DataW.trod enc Ybaf.prog W 0 (fun _ => true) true fuel 22 [.slice a n cap] = some x) :
    n ≤ cap ∧ ∃ vv, OV W a n vv := by
  rcases open_slice Ybaf.underlying22 h with ⟨h0, _⟩ | ⟨a', len, cap', m, k, D, Pl, hcs, _, hl, hm, hmm, _, hall⟩
  · simp at h0
    obtain ⟨rfl, rfl, rfl⟩ := h0
    exact ⟨Nat.le_refl _, fun _ => 0, fun h => by omega⟩
  · simp at hcs
    obtain ⟨rfl, rfl, rfl⟩ := hcs
    simp only [if_true] at hmm
    refine ⟨hl, ?_⟩
    rw [cells30] at hall
    have each : ∀ i, i < n → ∃ q : Int, W.cell? (a'.add i) = some (.int .u64 q) := by
      intro i hi
      obtain ⟨cs', h1, h2⟩ := hall i (by omega)
      obtain ⟨_, hlen, hcell⟩ := World.cells?_some h1
      obtain ⟨z0, e0, _, w0⟩ := DataW.trod_int Ybaf.underlying30 h2
      subst e0
      have c0 := hcell 0 (by simp)
      rw [add_add] at c0
      exact ⟨z0, by simpa using c0⟩
    obtain ⟨vv, hvv⟩ := choose_lt each
    exact ⟨vv, fun hn => ⟨a', rfl, fun i hi => hvv i hi⟩⟩

/-- A held query. -/
structure Qy where
  a : Int
  k : Int
  r : Int
  l : Bool
set_option maxRecDepth 100000 in
theorem held_of {H : Type} {enc : TypeId × Value → H} {W : World} {fuel : Nat} {a : Option Addr} {n cap : Nat} {x : DataW H × List MemPlace} (h : DataW.trod enc Ybaf.prog W 0 (fun _ => true) true fuel 65 [.slice a n cap] = some x) :
    ∃ ask key rf lk, HI W a n ask key rf lk := by
  rcases open_slice Ybaf.underlying65 h with ⟨h0, _⟩ | ⟨a', len, cap', m, k, D, Pl, hcs, _, hl, hm, hmm, _, hall⟩
  · simp at h0
    obtain ⟨rfl, rfl, rfl⟩ := h0
    exact ⟨fun _ => 0, fun _ => 0, fun _ => 0, fun _ => false, fun h => by omega⟩
  · simp at hcs
    obtain ⟨rfl, rfl, rfl⟩ := hcs
    simp only [if_true] at hmm
    rw [cells105] at hall
    have each : ∀ i, i < n → ∃ q : Qy, W.cell? (a'.add (i * 4)) = some (.int .u64 q.a) ∧ W.cell? (a'.add (i * 4 + 1)) = some (.int .u64 q.k) ∧ W.cell? (a'.add (i * 4 + 2)) = some (.int .u64 q.r) ∧ W.cell? (a'.add (i * 4 + 3)) = some (.bool q.l) := by
      intro i hi
      obtain ⟨cs', h1, h2⟩ := hall i (by omega)
      obtain ⟨_, hlen, hcell⟩ := World.cells?_some h1
      obtain ⟨xs, k', hk, hxy, _, hxl, hf⟩ := DataW.trod_struct Ybaf.underlying105 h2
      match xs, hxl, cs', hlen with
      | [y0, y1, y2, y3], _, [v0, v1, v2, v3], _ =>
        have g0 := hf 0 _ rfl
        have g1 := hf 1 _ rfl
        have g2 := hf 2 _ rfl
        have g3 := hf 3 _ rfl
        simp [cells30, cells4] at g0 g1 g2 g3
        obtain ⟨z0, e0, _, w0⟩ := DataW.trod_int Ybaf.underlying30 g0
        obtain ⟨z1, e1, _, w1⟩ := DataW.trod_int Ybaf.underlying30 g1
        obtain ⟨z2, e2, _, w2⟩ := DataW.trod_int Ybaf.underlying30 g2
        obtain ⟨z3, e3, _⟩ := DataW.trod_bool Ybaf.underlying4 g3
        simp at e0 e1 e2 e3
        subst e0 e1 e2 e3
        have c0 := hcell 0 (by omega)
        have c1 := hcell 1 (by omega)
        have c2 := hcell 2 (by omega)
        have c3 := hcell 3 (by omega)
        rw [add_add] at c0 c1 c2 c3
        exact ⟨⟨z0, z1, z2, z3⟩, by simpa using c0, by simpa using c1, by simpa using c2, by simpa using c3⟩
    have hin : Inhabited Qy := ⟨⟨0, 0, 0, false⟩⟩
    obtain ⟨g, hg⟩ := choose_lt each
    refine ⟨fun i => (g i).a, fun i => (g i).k, fun i => (g i).r, fun i => (g i).l, fun hn => ?_⟩
    obtain ⟨b, off, hx0⟩ := plain_addr (hg 0 hn).1
    obtain ⟨b, off, rfl⟩ : ∃ b o, a' = ⟨b, o, none⟩ := ⟨b, off, by simpa [Addr.add] using hx0⟩
    refine ⟨b, off, rfl, fun i hi => ?_⟩
    obtain ⟨c0, c1, c2, c3⟩ := hg i hi
    rw [add_flat] at c0 c1 c2 c3
    exact ⟨c0, by rw [Nat.add_assoc]; exact c1, by rw [Nat.add_assoc]; exact c2, by rw [Nat.add_assoc]; exact c3⟩
end Go.Proofs.YbulkdxyaFmt
