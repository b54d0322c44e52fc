/- parseNode: by contract: the row's plain side. -/
import Derived.Test.YbulkdycwFmtFields
import Derived.Deep.MidRow
import Derived.Maps.AppendAt
namespace Go.Proofs.YbulkdycwFmt
open Go.RowKit
set_option linter.unusedSimpArgs false
set_option linter.unusedVariables false

def setAll (cs : Array Value) : Nat → List Value → Array Value
  | _, [] => cs
  | o, v :: r => setAll (cs.setIfInBounds o v) (o + 1) r
theorem BStep.setCells {ty tb : Nat} {w : World} : ∀ (vs : List Value) (o : Nat) {cs : Array Value} {w' : World}, BStep ty tb cs w w' → BStep ty tb (setAll cs o vs) w (w'.setCells tb o vs)
  | [], _, _, _, h => h
  | v :: r, o, _, _, h => BStep.setCells r (o + 1) (h.set o v)
theorem setAll_size (cs : Array Value) : ∀ (o : Nat) (vs : List Value), (setAll cs o vs).size = cs.size := fun o vs => by
  induction vs generalizing cs o with
  | nil => rfl
  | cons v r ih => rw [setAll, ih]; simp
abbrev z19 : Array Value := #[.int .u64 0, .int .u64 0, .int .u64 0, .int .u64 0, .int .u64 0, .int .u64 0, .int .u64 0, .int .u64 0, .int .u64 0, .int .u64 0, .int .u64 0, .int .u64 0, .int .u64 0, .int .u64 0, .int .u64 0, .int .u64 0, .slice none 0 0, .int .u32 0, .slice none 0 0]
theorem there_of {w : World} {b o n : Nat} {cs : Array Value} {t : TypeId} (h : w.heap[b]? = some (.cells cs t (0, 0))) (hn : o + n ≤ cs.size) : w.there b o n := fun j hj => by
  constructor
  · have : o + j < cs.size := by omega
    simp [World.cell?, h, this]
  · simp [World.frozen?, h]

/-- The undefined fields of the bits 12 to 11 + i. -/
def und (T : Nat) (dv : Nat → Int) (q : Nat) : Nat → List Int
  | 0 => []
  | i + 1 => und T dv q i ++ if tbit T (12 + i) = true then [be dv (q + 4 * (und T dv q i).length) 4] else []
theorem und_mono (T : Nat) (dv : Nat → Int) (q : Nat) {i m : Nat} (h : i ≤ m) : (und T dv q i).length ≤ (und T dv q m).length := by
  induction m with
  | zero => rw [show i = 0 by omega]; exact Nat.le_refl _
  | succ m ih =>
    rcases Nat.lt_or_ge m i with h' | h'
    · rw [show i = m + 1 by omega]; exact Nat.le_refl _
    · have := ih h'
      rw [und, List.length_append]; omega
theorem und_le (T : Nat) (dv : Nat → Int) (q i : Nat) : (und T dv q i).length ≤ i := by
  induction i with
  | zero => simp [und]
  | succ i ih =>
    rw [und, List.length_append]
    split <;> simp <;> omega
theorem und_count (T : Nat) (dv : Nat → Int) (q : Nat) : (und T dv q 10).length = cnt10 (4 * (T / 4 % 1024)) := by
  have e : ∀ i, (und T dv q (i + 1)).length = (und T dv q i).length + (T / 2 ^ (23 - (12 + i)) % 2) := fun i => by
    rw [und, List.length_append]
    have := bit_if T (12 + i) 1
    congr 1
    rw [← Nat.one_mul (T / 2 ^ (23 - (12 + i)) % 2), ← this]
    split <;> rfl
  rw [e 9, e 8, e 7, e 6, e 5, e 4, e 3, e 2, e 1, e 0, cnt10_eq]
  show 0 + T / 2048 % 2 + T / 1024 % 2 + T / 512 % 2 + T / 256 % 2 + T / 128 % 2 + T / 64 % 2 + T / 32 % 2 + T / 16 % 2 + T / 8 % 2 + T / 4 % 2 = _
  generalize T / 2048 % 2 = d12
  generalize T / 1024 % 2 = d13
  generalize T / 512 % 2 = d14
  generalize T / 256 % 2 = d15
  generalize T / 128 % 2 = d16
  generalize T / 64 % 2 = d17
  generalize T / 32 % 2 = d18
  generalize T / 16 % 2 = d19
  generalize T / 8 % 2 = d20
  generalize T / 4 % 2 = d21
  omega
theorem fixed_eq (T : Nat) (dv : Nat → Int) (q : Nat) : ssum T 16 + 4 * (und T dv q 10).length = 4 * units T 24 := by
  rw [und_count]
  have h := nodeLen_eq T
  have h4 : 4 ∣ ssum T 16 := by
    rw [ssum16]
    omega
  omega

/-- Only block Tb and U's row have turned. -/
structure NStep (Tb : Nat) (rc : Array Value) (U : Option Nat) (w w' : World) : Prop where
  par : w'.heap[Tb]? = some (.cells rc 34 (0, 0))
  other : ∀ j, j < w.heap.size → j ≠ Tb → some j ≠ U → w'.heap[j]? = w.heap[j]?
  below : ∀ B, B ≤ Tb → (∀ g, U = some g → B ≤ g) → B ≤ w.heap.size → Below B w w'
  size : w.heap.size ≤ w'.heap.size
  tape : w'.tape = w.tape
theorem BStep.n {Tb : Nat} {rc : Array Value} {w w' : World} (h : BStep 34 Tb rc w w') (U : Option Nat) : NStep Tb rc U w w' :=
  ⟨h.par, fun j hj hne _ => h.other j hj hne, fun B hB _ _ => h.below B hB, h.size, h.tape⟩
theorem NStep.below' {Tb : Nat} {rc : Array Value} {U : Option Nat} {w w1 w2 : World} (h : NStep Tb rc U w w1) (hb : Below w1.heap.size w1 w2) : NStep Tb rc U w w2 :=
  ⟨(hb.block Tb (Array.getElem?_eq_some_iff.1 h.par).1).trans h.par, fun j hj hne hu => (hb.block j (Nat.lt_of_lt_of_le hj h.size)).trans (h.other j hj hne hu),
    fun B hB hu hs => (h.below B hB hu hs).trans (hb.mono (by have := h.size; omega)), Nat.le_trans h.size hb.size, hb.tape.trans h.tape⟩
theorem NStep.grown {Tb : Nat} {rc : Array Value} {U r : Option Nat} {w w1 w2 : World} (h : NStep Tb rc U w w1) (hg : w1.grownBy w2 r) (hr : r = none ∨ r = U ∨ ∃ g, r = some g ∧ w.heap.size ≤ g) (hT : r ≠ some Tb) (hTs : Tb < w.heap.size) : NStep Tb rc U w w2 := by
  refine ⟨(hg.block Tb (Nat.lt_of_lt_of_le hTs h.size) (fun e => hT e.symm)).trans h.par, fun j hj hne hu => (hg.block j (Nat.lt_of_lt_of_le hj h.size) (fun e => ?_)).trans (h.other j hj hne hu),
    fun B hB hu hs => (h.below B hB hu hs).grown hg (Nat.le_trans hs h.size) (fun k e => ?_), Nat.le_trans h.size hg.size, hg.tape.trans h.tape⟩
  · rcases hr with hr | hr | ⟨g, hr, hge⟩
    · rw [hr] at e; cases e
    · rw [hr] at e; exact hu e
    · rw [hr] at e; cases e; omega
  · rcases hr with hr | hr | ⟨g, hr, hge⟩
    · rw [hr] at e; cases e
    · exact hu k (by rw [← hr]; exact e)
    · rw [hr] at e; cases e; omega
theorem NStep.set {Tb : Nat} {rc : Array Value} {U : Option Nat} {w w' : World} (h : NStep Tb rc U w w') (i : Nat) (v : Value) : NStep Tb (rc.setIfInBounds i v) U w (w'.setCell ⟨Tb, i, none⟩ v) :=
  ⟨heap_setCell_same _ Tb i rc 34 v h.par, fun j hj hne hu => (Below.heap_setCell _ _ _ _ hne).trans (h.other j hj hne hu), fun B hB hu hs => (h.below B hB hu hs).setCell (p := ⟨Tb, i, none⟩) hB v, by rw [World.size_setCell]; exact h.size, by rw [((Below.refl 0 w').setCell (p := ⟨Tb, i, none⟩) (Nat.zero_le _) v).tape]; exact h.tape⟩
theorem NStep.cell {Tb : Nat} {rc : Array Value} {U : Option Nat} {w w' : World} (h : NStep Tb rc U w w') {i : Nat} {v : Value} (hv : rc[i]? = some v) : w'.cell? ⟨Tb, i, none⟩ = some v := by
  simp [World.cell?, h.par, hv]
theorem NStep.frozen {Tb : Nat} {rc : Array Value} {U : Option Nat} {w w' : World} (h : NStep Tb rc U w w') (i : Nat) : w'.frozen? ⟨Tb, i, none⟩ = false := by
  simp [World.frozen?, h.par]
theorem BsAt.nstep {Tb : Nat} {rc : Array Value} {U : Option Nat} {w w' : World} {ad : Addr} {n p : Nat} {dv : Nat → Int} (h : BsAt w ad n dv p) (hs : NStep Tb rc U w w') (hne : ad.block ≠ Tb) (hu : U ≠ some ad.block) : BsAt w' ad n dv p := fun i hi => by
  have h1 := h i hi
  rw [World.cell?_of_block (w := w) (hs.other _ (lt_of_cell h1) (by rw [add_block]; exact hne) (by rw [add_block]; exact fun e => hu e.symm))]
  exact h1
theorem BStep.trans' {ty tb : Nat} {cs cs' : Array Value} {w w1 w2 : World} (h : BStep ty tb cs w w1) (h2 : BStep ty tb cs' w1 w2) : BStep ty tb cs' w w2 :=
  ⟨h2.par, fun j hj hne => (h2.other j (Nat.lt_of_lt_of_le hj h.size) hne).trans (h.other j hj hne), fun B hB => (h.below B hB).trans (h2.below B hB), Nat.le_trans h.size h2.size, h2.tape.trans h.tape⟩
theorem own_of_block {w w' : World} {B n : Nat} {e : TypeId} {sz : Nat} {v : Value} {xs : List Value} (h : w.ownsRow B e sz v n xs) (hk : ∀ g, v.ownBlock = some g → w'.heap[g]? = w.heap[g]?) : w'.ownsRow B e sz v n xs := by
  refine ⟨h.1, ?_⟩
  rcases h.2 with h0 | ⟨g, cap, cur, rfl, hb, hg, r⟩
  · exact .inl h0
  · exact .inr ⟨g, cap, cur, rfl, hb, (hk g rfl).trans hg, r⟩
theorem own_below {w w' : World} {B n : Nat} {e : TypeId} {sz : Nat} {v : Value} {xs : List Value} (h : w.ownsRow B e sz v n xs) {C : Nat} (hb : Below C w w') (hC : w.heap.size ≤ C) : w'.ownsRow B e sz v n xs :=
  own_of_block h (fun g hg => hb.block g (Nat.lt_of_lt_of_le (h.lt g hg).2 hC))

/-- The loop's state over the undefined bits: i of them are done; w: the world where parseNode began. -/
structure PN (w wr : World) (Tb : Nat) (R2 : Array Value) (Uo : Option Nat) (B0 i q n' ab : Nat) (T : Nat) (dv : Nat → Int) (adk : Addr) (u : Value) : Prop where
  blk : adk.block = ab
  bs : BsAt wr adk (n' - 4 * (und T dv q i).length) dv (q + 4 * (und T dv q i).length)
  step : NStep Tb R2 Uo w wr
  own : wr.ownsRow B0 23 1 u (und T dv q i).length ((und T dv q i).map (Value.int .u32))
  lie : u.ownBlock = Uo ∨ ∃ g, u.ownBlock = some g ∧ w.heap.size ≤ g
theorem PN.skip {w wr : World} {Tb : Nat} {R2 : Array Value} {Uo : Option Nat} {B0 i q n' ab T : Nat} {dv : Nat → Int} {adk : Addr} {u : Value} (h : PN w wr Tb R2 Uo B0 i q n' ab T dv adk u) (hb : tbit T (12 + i) = false) : PN w wr Tb R2 Uo B0 (i + 1) q n' ab T dv adk u := by
  have e : und T dv q (i + 1) = und T dv q i := by rw [und, if_neg (by simp [hb])]; simp
  exact ⟨h.blk, by rw [e]; exact h.bs, h.step, by rw [e]; exact h.own, h.lie⟩
theorem PN.push {w wr w2 w3 : World} {Tb : Nat} {R2 : Array Value} {Uo : Option Nat} {B0 i q n' c' ab T : Nat} {dv : Nat → Int} {adk : Addr} {u : Value} {g cap : Nat} {o : Obj} (h : PN w wr Tb R2 Uo B0 i q n' ab T dv adk u) (hb : tbit T (12 + i) = true)
    (h2 : Below wr.heap.size wr w2) (hown : w3.ownsRow B0 23 1 (.slice (some ⟨g, 0, none⟩) ((und T dv q i).length + 1) cap) ((und T dv q i).length + 1) ((und T dv q i).map (Value.int .u32) ++ [.int .u32 (be dv (q + 4 * (und T dv q i).length) 4)]))
    (hgrow : (w2.alloc o).grownBy w3 u.ownBlock) (hat : u.ownBlock = some g ∨ g = (w2.alloc o).heap.size) (hT : Uo ≠ some Tb) (hTs : Tb < w.heap.size) (hab : ab < w.heap.size) (habT : ab ≠ Tb) (hUa : Uo ≠ some ab)
    (hn : 4 + 4 * (und T dv q i).length ≤ n') (hnc : n' ≤ c') :
    PN w w3 Tb R2 Uo B0 (i + 1) q n' ab T dv (cutA adk (c' - 4 * (und T dv q i).length) 4) (.slice (some ⟨g, 0, none⟩) ((und T dv q i).length + 1) cap) := by
  have e : und T dv q (i + 1) = und T dv q i ++ [be dv (q + 4 * (und T dv q i).length) 4] := by rw [und, if_pos hb]
  have el : (und T dv q (i + 1)).length = (und T dv q i).length + 1 := by rw [e]; simp
  have hs2 : NStep Tb R2 Uo w (w2.alloc o) := (h.step.below' h2).below' ((Below.refl _ _).alloc (Nat.le_refl _) o)
  have hur : u.ownBlock = none ∨ u.ownBlock = Uo ∨ ∃ g, u.ownBlock = some g ∧ w.heap.size ≤ g := by
    rcases h.lie with hl | hl
    · exact .inr (.inl hl)
    · exact .inr (.inr hl)
  have huT : u.ownBlock ≠ some Tb := by
    rcases h.lie with hl | ⟨g', hl, hge⟩
    · rw [hl]; exact hT
    · rw [hl]; intro e; cases e; omega
  have huA : u.ownBlock ≠ some ab := by
    rcases h.lie with hl | ⟨g', hl, hge⟩
    · rw [hl]; exact hUa
    · rw [hl]; intro e; cases e; omega
  have hs3 := hs2.grown hgrow hur huT hTs
  refine ⟨by rw [cutA_block]; exact h.blk, ?_, hs3, ?_, ?_⟩
  · rw [el]
    have hcut := h.bs.cut (c' - 4 * (und T dv q i).length) 4 (n' - 4 * (und T dv q i).length) (by omega) (Nat.le_refl _) (by omega)
    intro j hj
    have hc := hcut j (by omega)
    rw [show q + 4 * ((und T dv q i).length + 1) = q + 4 * (und T dv q i).length + 4 by omega]
    have hlt := lt_of_cell hc
    have h3 : w3.heap[((cutA adk (c' - 4 * (und T dv q i).length) 4).add j).block]? = wr.heap[((cutA adk (c' - 4 * (und T dv q i).length) 4).add j).block]? := by
      rw [add_block, cutA_block, h.blk] at hlt ⊢
      have h2s := h2.size
      rw [hgrow.block ab (by simp; omega) (fun e => huA e.symm), Below.heap_alloc _ _ _ (by omega)]
      exact h2.block ab hlt
    rw [World.cell?_of_block (w := wr) h3]
    exact hc
  · rw [el, e, List.map_append]; exact hown
  · rcases hat with hat | hat
    · rcases h.lie with hl | ⟨g', hl, hge⟩
      · left; rw [← hl, hat]; rfl
      · right
        rw [hl] at hat; cases hat
        exact ⟨g, rfl, hge⟩
    · right
      refine ⟨g, rfl, ?_⟩
      have := hs2.size
      omega
end Go.Proofs.YbulkdycwFmt
