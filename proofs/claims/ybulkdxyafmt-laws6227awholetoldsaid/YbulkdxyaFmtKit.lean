/- Small laws on blocks. -/
import Derived.Test.YbulkdxyaFmtRows
import Derived.WalkKit
import Derived.WalkSpells
import Derived.WalkLawsBesides
import Derived.OpenShut
import Derived.Deep.OwnRows
import Derived.Deep.DeepCutAuto
import Derived.Deep.CutBlock
import Derived.BigQuiet
import Derived.Deep.QuietTactic
import Derived.Deep.RegionWith
import Derived.Deep.RegionLawGrows
import Derived.StillTailTactics
import Derived.Laws.Rows
import Derived.Laws.ResultCell
import Derived.Deep.MidRow
namespace Go.Proofs.YbulkdxyaFmt
open Go.RowKit
set_option linter.unusedSimpArgs false
set_option linter.unusedVariables false

theorem cell_of {w : World} {g i : Nat} {cs : Array Value} {t : TypeId} {fr : Nat × Nat} {v : Value} (h : w.heap[g]? = some (.cells cs t fr)) (hv : cs[i]? = some v) : w.cell? ⟨g, i, none⟩ = some v := by
  simp [World.cell?, h, hv]
theorem frozen_of {w : World} {tb i : Nat} {cs : Array Value} {ty : TypeId} (h : w.heap[tb]? = some (.cells cs ty (0, 0))) : w.frozen? ⟨tb, i, none⟩ = false := by simp [World.frozen?, h]
theorem new_at {W : World} {o : Obj} {b : Nat} (h : b = W.heap.size) : (W.alloc o).heap[b]? = some o := by subst h; exact heap_alloc_new W o

/-- Of what was there only block tb (cells of type ty) has turned. -/
structure BStep (ty tb : Nat) (cs : Array Value) (w w' : World) : Prop where
  par : w'.heap[tb]? = some (.cells cs ty (0, 0))
  other : ∀ j, j < w.heap.size → j ≠ tb → w'.heap[j]? = w.heap[j]?
  below : ∀ B, B ≤ tb → Below B w w'
  size : w.heap.size ≤ w'.heap.size
  tape : w'.tape = w.tape
theorem BStep.set {ty tb : Nat} {cs : Array Value} {w w' : World} (h : BStep ty tb cs w w') (i : Nat) (v : Value) : BStep ty tb (cs.setIfInBounds i v) w (w'.setCell ⟨tb, i, none⟩ v) :=
  ⟨heap_setCell_same _ tb i cs ty v h.par, fun j hj hne => (Below.heap_setCell _ _ _ _ hne).trans (h.other j hj hne), fun B hB => (h.below B hB).setCell (p := ⟨tb, i, none⟩) hB v, by rw [World.size_setCell]; exact h.size, by rw [((Below.refl 0 w').setCell (p := ⟨tb, i, none⟩) (Nat.zero_le _) v).tape]; exact h.tape⟩
/-- A store into a block laid since. -/
theorem BStep.setNew {ty tb : Nat} {cs : Array Value} {w w' : World} (h : BStep ty tb cs w w') (a : Addr) (v : Value) (ha : w.heap.size ≤ a.block) (htb : tb < w.heap.size) : BStep ty tb cs w (w'.setCell a v) :=
  ⟨(Below.heap_setCell _ _ _ _ (by omega)).trans h.par, fun j hj hne => (Below.heap_setCell _ _ _ _ (by omega)).trans (h.other j hj hne), fun B hB => (h.below B hB).setCell (p := a) (by omega) v, by rw [World.size_setCell]; exact h.size, by rw [((Below.refl 0 w').setCell (p := a) (Nat.zero_le _) v).tape]; exact h.tape⟩
theorem BStep.below' {ty tb : Nat} {cs : Array Value} {w w1 w2 : World} (h : BStep ty tb cs w w1) (hb : Below w1.heap.size w1 w2) : BStep ty tb cs w w2 :=
  ⟨(hb.block tb (Array.getElem?_eq_some_iff.1 h.par).1).trans h.par, fun j hj hne => (hb.block j (Nat.lt_of_lt_of_le hj h.size)).trans (h.other j hj hne),
    fun B hB => (h.below B hB).trans (hb.mono (by have := (Array.getElem?_eq_some_iff.1 h.par).1; omega)), Nat.le_trans h.size hb.size, hb.tape.trans h.tape⟩
theorem BStep.alloc {ty tb : Nat} {cs : Array Value} {w w1 : World} (h : BStep ty tb cs w w1) (o : Obj) : BStep ty tb cs w (w1.alloc o) := h.below' ((Below.refl _ _).alloc (Nat.le_refl _) o)
theorem BStep.drew {ty tb : Nat} {cs : Array Value} {w w1 : World} (h : BStep ty tb cs w w1) : BStep ty tb cs w w1.drew := h.below' ((Below.refl _ _).drew)
theorem BStep.refl {ty tb : Nat} {cs : Array Value} {w : World} (h : w.heap[tb]? = some (.cells cs ty (0, 0))) : BStep ty tb cs w w :=
  ⟨h, fun _ _ _ => rfl, fun B _ => Below.refl _ _, Nat.le_refl _, rfl⟩
theorem BStep.cell {ty tb : Nat} {cs : Array Value} {w w' : World} (h : BStep ty tb cs w w') {i : Nat} {v : Value} (hv : cs[i]? = some v) : w'.cell? ⟨tb, i, none⟩ = some v := by
  simp [World.cell?, h.par, hv]
theorem BStep.frozen {ty tb : Nat} {cs : Array Value} {w w' : World} (h : BStep ty tb cs w w') (i : Nat) : w'.frozen? ⟨tb, i, none⟩ = false := by
  simp [World.frozen?, h.par]

def setAll (cs : Array Value) : Nat → List Value → Array Value
  | _, [] => cs
  | o, v :: r => setAll (cs.setIfInBounds o v) (o + 1) r
theorem BStep.setCells {ty tb : Nat} {w : World} : ∀ (vs : List Value) (o : Nat) {cs : Array Value} {w' : World}, BStep ty tb cs w w' → BStep ty tb (setAll cs o vs) w (w'.setCells tb o vs)
  | [], _, _, _, h => h
  | v :: r, o, _, _, h => BStep.setCells r (o + 1) (h.set o v)
theorem setAll_size (cs : Array Value) : ∀ (o : Nat) (vs : List Value), (setAll cs o vs).size = cs.size := fun o vs => by
  induction vs generalizing cs o with
  | nil => rfl
  | cons v r ih => rw [setAll, ih]; simp
abbrev z19 : Array Value := #[.int .u64 0, .int .u64 0, .int .u64 0, .int .u64 0, .int .u64 0, .int .u64 0, .int .u64 0, .int .u64 0, .int .u64 0, .int .u64 0, .int .u64 0, .int .u64 0, .int .u64 0, .int .u64 0, .int .u64 0, .int .u64 0, .slice none 0 0, .int .u32 0, .slice none 0 0]
theorem there_of {w : World} {b o n : Nat} {cs : Array Value} {t : TypeId} (h : w.heap[b]? = some (.cells cs t (0, 0))) (hn : o + n ≤ cs.size) : w.there b o n := fun j hj => by
  constructor
  · have : o + j < cs.size := by omega
    simp [World.cell?, h, this]
  · simp [World.frozen?, h]

theorem setAll_out (vs : List Value) : ∀ (cs : Array Value) (o j : Nat), (j < o ∨ o + vs.length ≤ j) → (setAll cs o vs)[j]? = cs[j]? := by
  induction vs with
  | nil => intro cs o j _; rfl
  | cons v r ih =>
    intro cs o j hj
    simp at hj
    rw [setAll, ih _ _ _ (by omega), Array.getElem?_setIfInBounds_ne (by omega)]
theorem setAll_in (vs : List Value) : ∀ (cs : Array Value) (o i : Nat) (v : Value), vs[i]? = some v → o + vs.length ≤ cs.size → (setAll cs o vs)[o + i]? = some v := by
  induction vs with
  | nil => intro cs o i v h _; simp at h
  | cons u r ih =>
    intro cs o i v h hs
    simp at hs
    rw [setAll]
    cases i with
    | zero =>
      simp at h
      subst h
      rw [setAll_out r _ _ _ (by omega), Nat.add_zero]
      have : o < cs.size := by omega
      simp [this]
    | succ i =>
      simp at h
      rw [show o + (i + 1) = o + 1 + i by omega]
      exact ih _ _ i v h (by simp; omega)

theorem setAll_full {cs : Array Value} {vs : Array Value} (h : cs.size = vs.size) : setAll cs 0 vs.toList = vs := by
  apply Array.ext_getElem?
  intro j
  rcases Nat.lt_or_ge j vs.size with hlt | hge
  · have h1 : vs[j]? = some vs[j] := Array.getElem?_eq_getElem hlt
    have := setAll_in vs.toList cs 0 j vs[j] (by simp) (by simp [h])
    rw [Nat.zero_add] at this
    rw [this, h1]
  · rw [Array.getElem?_eq_none hge, Array.getElem?_eq_none (by rw [setAll_size]; omega)]
theorem add_block (ad : Addr) (i : Nat) : (ad.add i).block = ad.block := by unfold Addr.add; split <;> rfl
theorem lt_of_cell {w : World} {a : Addr} {v : Value} (h : w.cell? a = some v) : a.block < w.heap.size := by
  rcases Nat.lt_or_ge a.block w.heap.size with h' | h'
  · exact h'
  · simp [World.cell?, Array.getElem?_eq_none h'] at h
/-- A row loaded from one block and stored into another. -/
theorem hand_row {w w2 : World} {N g : Nat} {t : TypeId} {cs zs : Array Value} (hN : w2.heap[N]? = some (.cells zs t (0, 0))) (hs : zs.size = cs.size) (hb : Below N w w2) :
    w2.there N 0 cs.size ∧ (w2.setCells N 0 cs.toList).heap[N]? = some (.cells cs t (0, 0)) ∧ Below N w (w2.setCells N 0 cs.toList) ∧ ∀ j, j ≠ N → j < w2.heap.size → (w2.setCells N 0 cs.toList).heap[j]? = w2.heap[j]? := by
  have h2 := (BStep.refl hN).setCells cs.toList 0
  rw [setAll_full hs] at h2
  exact ⟨there_of hN (by rw [hs]; omega), h2.par, hb.trans (h2.below N (Nat.le_refl _)), fun j hj hlt => h2.other j hlt hj⟩
end Go.Proofs.YbulkdxyaFmt
