/- checkNodeLen, parseHeader: by contract. -/
import Derived.Test.YbulkdycwFmtHex
import Derived.Deep.RegionHeld
import Derived.Deep.RegionHeldLaw
namespace Go.Proofs.YbulkdycwFmt
open Go.RowKit
open Go.Extern.Stop Go.Stop Go.Extern
set_option linter.unusedSimpArgs false
set_option linter.unusedVariables false

theorem fmtLen (w : World) : (FmtDoors.printed ⟨#[78, 111, 100, 101, 76, 101, 110, 32, 37, 100, 44, 32, 98, 117, 116, 32, 84, 114, 97, 99, 101, 45, 84, 121, 112, 101, 32, 37, 115, 32, 97, 110, 110, 111, 117, 110, 99, 101, 115, 32, 37, 100, 32, 40, 105, 110, 32, 52, 45, 111, 99, 116, 101, 116, 32, 117, 110, 105, 116, 115, 41]⟩ 3).run Ybaf.prog w = .ok [(0, 100, false), (1, 115, false), (2, 100, false)] w := by kernel_rfl

theorem cell_of {w : World} {b i : Nat} {c : Array Value} {t : TypeId} {v : Value} (hb : w.heap[b]? = some (.cells c t (0, 0))) (hc : c[i]? = some v) : w.cell? ⟨b, i, .none⟩ = some v := by
  simp [World.cell?, hb, hc]
/-- A trace's six cells. -/
abbrev trc (ns nl fl rl T : Int) (nd : Value) : Array Value := #[.int .u16 ns, .int .u8 nl, .int .u8 fl, .int .u8 rl, .int .u32 T, nd]

set_option maxRecDepth 100000 in
set_option maxHeartbeats 2000000 in
theorem checkLen_calls (F : Interp) (ns fl rl : Int) (nl T : Nat) (p : Option Addr) (k C : Nat) (hT : T < 16777216) (hnl : nl ≤ 255) (nv : Nat → ByteArray) (w : World) (ht : Table w nv) (hw : 1 < w.heap.size) (hF : F.answers w.tape) :
    Calls Ybaf.prog 15 #[.agg (trc ns nl fl rl T (.slice p k C))] w fun e w' => (if nl = units T 24 then e = .returned .nilIface else ∃ t x, e = .returned (.iface t x)) ∧ Below w.heap.size w w' := by
  have HT : Hid (Table w nv) := ht
  have HF : Hid (F.answers w.tape) := hF
  have hu := units_le T 24
  clear ht hF
  have H1 : Hid (∀ o : Obj, Calls Ybaf.prog 21 #[.int .u32 (T : Int)] (w.alloc o) fun e w' => e = .returned (.int .i64 (units T 24)) ∧ Below (w.alloc o).heap.size (w.alloc o) w') := fun o => nodeLen_calls T hT nv _ (HT.out.keep ((Below.refl _ _).alloc (Nat.le_refl _) o) hw) (by simp; omega)
  generalize units T 24 = U at *
  go_enter Ybaf.func15, Ybaf.ntmps15
  have hcell : ∀ {w' : World} (cs : Array Value) (i : Nat) (v : Value), Below (w.alloc (.cells cs 39)).heap.size (w.alloc (.cells cs 39)) w' → cs[i]? = some v → w'.cell? ⟨w.heap.size, i, none⟩ = some v := fun cs i v hb hv => by
    rw [hb.cell (p := ⟨w.heap.size, i, none⟩) (by simp)]
    exact cell_of (heap_alloc_new w _) hv
  have HC : Hid (∀ {w' : World} (cs : Array Value) (i : Nat) (v : Value), Below (w.alloc (.cells cs 39)).heap.size (w.alloc (.cells cs 39)) w' → cs[i]? = some v → w'.cell? ⟨w.heap.size, i, none⟩ = some v) := hcell
  clear hcell
  by_cases h : nl = U
  · subst h
    go_wp2_with (go_at_call 21; refine (H1.out _).mono ?_; rintro e' w' ⟨rfl, hb⟩; have d1 := HC.out _ 1 _ hb rfl; have d4 := HC.out _ 4 _ hb rfl; have HB : Hid (Below w.heap.size w w') := ((Below.refl _ _).alloc (Nat.le_refl _) _).trans (hb.mono (by simp)); clear hb)
    go_ret
    exact ⟨by simp, HB.out⟩
  · have hne : ((nl : Int) == (U : Int)) = false := by simp; omega
    have hne2 : ((nl : Int) != (U : Int)) = true := by simp; omega
    go_wp2_with (first
      | (go_at_call 21; refine (H1.out _).mono ?_; rintro e' w' ⟨rfl, hb⟩; have d1 := HC.out _ 1 _ hb rfl; have d4 := HC.out _ 4 _ hb rfl; have HB : Hid (Below w.heap.size w w') := ((Below.refl _ _).alloc (Nat.le_refl _) _).trans (hb.mono (by simp)); have hF2 : Hid (F.answers w'.tape) := (by rw [HB.out.tape]; exact HF.out : F.answers w'.tape); clear hb)
      | (go_at_call 10; (refine (errorf3_calls F _ fmtLen (nl : Int) (U : Int) T hT w'.heap.size _ (by exact hF2.out) (cell_of (heap_alloc_new _ _) rfl) (cell_of (heap_alloc_new _ _) rfl) (cell_of (heap_alloc_new _ _) rfl)).mono ?_); rintro e' w2 ⟨⟨t, x, rfl⟩, hb⟩; have HB2 : Hid (Below w.heap.size w w2) := (HB.out.alloc HB.out.size _).trans (hb.mono (by have := HB.out.size; simp; omega)); clear hb))
    go_ret
    exact ⟨⟨_, _, rfl⟩, HB2.out⟩

/-- Of what was there only the trace's block has turned. -/
structure TStep (tb : Nat) (cs : Array Value) (w w' : World) : Prop where
  par : w'.heap[tb]? = some (.cells cs 39 (0, 0))
  other : ∀ j, j < w.heap.size → j ≠ tb → w'.heap[j]? = w.heap[j]?
  below : ∀ B, B ≤ tb → Below B w w'
  size : w.heap.size ≤ w'.heap.size
  tape : w'.tape = w.tape
theorem TStep.set {tb : Nat} {cs : Array Value} {w w' : World} (h : TStep tb cs w w') (i : Nat) (v : Value) : TStep tb (cs.setIfInBounds i v) w (w'.setCell ⟨tb, i, none⟩ v) :=
  ⟨heap_setCell_same _ tb i cs 39 v h.par, fun j hj hne => (Below.heap_setCell _ _ _ _ hne).trans (h.other j hj hne), fun B hB => (h.below B hB).setCell (p := ⟨tb, i, none⟩) hB v, by rw [World.size_setCell]; exact h.size, by rw [((Below.refl 0 w').setCell (p := ⟨tb, i, none⟩) (Nat.zero_le _) v).tape]; exact h.tape⟩
theorem TStep.below' {tb : Nat} {cs : Array Value} {w w1 w2 : World} (h : TStep tb cs w w1) (hb : Below w1.heap.size w1 w2) : TStep tb cs w w2 :=
  ⟨(hb.block tb (Array.getElem?_eq_some_iff.1 h.par).1).trans h.par, fun j hj hne => (hb.block j (Nat.lt_of_lt_of_le hj h.size)).trans (h.other j hj hne),
    fun B hB => (h.below B hB).trans (hb.mono (by have := (Array.getElem?_eq_some_iff.1 h.par).1; omega)), Nat.le_trans h.size hb.size, hb.tape.trans h.tape⟩
theorem TStep.refl {tb : Nat} {cs : Array Value} {w : World} (h : w.heap[tb]? = some (.cells cs 39 (0, 0))) : TStep tb cs w w :=
  ⟨h, fun _ _ _ => rfl, fun B _ => Below.refl _ _, Nat.le_refl _, rfl⟩
theorem TStep.cell {tb : Nat} {cs : Array Value} {w w' : World} (h : TStep tb cs w w') {i : Nat} {v : Value} (hv : cs[i]? = some v) : w'.cell? ⟨tb, i, none⟩ = some v := by
  simp [World.cell?, h.par, hv]
theorem TStep.frozen {tb : Nat} {cs : Array Value} {w w' : World} (h : TStep tb cs w w') (i : Nat) : w'.frozen? ⟨tb, i, none⟩ = false := by
  simp [World.frozen?, h.par]
theorem add_block (ad : Addr) (i : Nat) : (ad.add i).block = ad.block := by unfold Addr.add; split <;> rfl
theorem BsAt.tstep {tb : Nat} {cs : Array Value} {w w' : World} {ad : Addr} {n p : Nat} {dv : Nat → Int} (h : BsAt w ad n dv p) (hs : TStep tb cs w w') (hne : ad.block ≠ tb) : BsAt w' ad n dv p := fun i hi => by
  have h1 := h i hi
  rw [World.cell?_of_block (w := w) (hs.other _ (lt_of_cell h1) (by rw [add_block]; exact hne))]
  exact h1
theorem Table.tstep {tb : Nat} {cs : Array Value} {w w' : World} {nv : Nat → ByteArray} (h : Table w nv) (hs : TStep tb cs w w') (hne : 1 < tb) : Table w' nv :=
  h.keep (hs.below tb (Nat.le_refl _)) hne

theorem fmtHead (w : World) : (FmtDoors.printed ⟨#[116, 114, 97, 99, 101, 32, 111, 112, 116, 105, 111, 110, 32, 101, 110, 100, 115, 32, 105, 110, 115, 105, 100, 101, 32, 105, 116, 115, 32, 37, 100, 45, 111, 99, 116, 101, 116, 32, 104, 101, 97, 100, 101, 114, 32, 40, 37, 100, 32, 111, 99, 116, 101, 116, 115, 32, 111, 102, 32, 116, 114, 97, 99, 101, 32, 100, 97, 116, 97, 41]⟩ 2).run Ybaf.prog w = .ok [(0, 100, false), (1, 100, false)] w := by kernel_rfl
theorem new_at {W : World} {o : Obj} {b : Nat} (h : b = W.heap.size) : (W.alloc o).heap[b]? = some o := by subst h; exact heap_alloc_new W o
theorem TStep.alloc {tb : Nat} {cs : Array Value} {w w1 : World} (h : TStep tb cs w w1) (o : Obj) : TStep tb cs w (w1.alloc o) := h.below' ((Below.refl _ _).alloc (Nat.le_refl _) o)
theorem TStep.drew {tb : Nat} {cs : Array Value} {w w1 : World} (h : TStep tb cs w w1) : TStep tb cs w w1.drew := h.below' ((Below.refl _ _).drew)
theorem six_step {tb : Nat} {w : World} {a0 a1 a2 a3 a4 a5 : Value} (hp : w.heap[tb]? = some (.cells #[a0, a1, a2, a3, a4, a5] 39 (0, 0))) (v0 v1 v2 v3 v4 v5 : Value) :
    TStep tb #[v0, v1, v2, v3, v4, v5] w ((((((w.setCell ⟨tb, 0, none⟩ v0).setCell ⟨tb, 1, none⟩ v1).setCell ⟨tb, 2, none⟩ v2).setCell ⟨tb, 3, none⟩ v3).setCell ⟨tb, 4, none⟩ v4).setCell ⟨tb, 5, none⟩ v5) := by
  have h := ((((((TStep.refl hp).set 0 v0).set 1 v1).set 2 v2).set 3 v3).set 4 v4).set 5 v5
  simpa using h

end Go.Proofs.YbulkdycwFmt
