/- parseNodes: what its loop keeps. -/
import Derived.Test.YbulkdycwFmtGrow
namespace Go.Proofs.YbulkdycwFmt
open Go.RowKit
open Go.Extern.Stop Go.Stop Go.Extern
set_option linter.unusedSimpArgs false
set_option linter.unusedVariables false

theorem fmtOpaque (w : World) : (FmtDoors.printed ⟨#[111, 112, 97, 113, 117, 101, 32, 115, 110, 97, 112, 115, 104, 111, 116, 32, 111, 102, 32, 76, 101, 110, 103, 116, 104, 32, 37, 100, 32, 114, 117, 110, 115, 32, 112, 97, 115, 116, 32, 116, 104, 101, 32, 110, 111, 100, 101, 32, 100, 97, 116, 97, 32, 40, 37, 100, 32, 111, 99, 116, 101, 116, 115, 32, 108, 101, 102, 116, 32, 97, 102, 116, 101, 114, 32, 105, 116, 115, 32, 104, 101, 97, 100, 101, 114, 41]⟩ 2).run Ybaf.prog w = .ok [(0, 100, false), (1, 100, false)] w := by kernel_rfl
theorem fmtEnds (w : World) : (FmtDoors.printed ⟨#[110, 111, 100, 101, 32, 100, 97, 116, 97, 32, 101, 110, 100, 115, 32, 105, 110, 115, 105, 100, 101, 32, 97, 110, 32, 101, 108, 101, 109, 101, 110, 116, 32, 111, 102, 32, 37, 100, 32, 111, 99, 116, 101, 116, 115, 32, 40, 37, 100, 32, 108, 101, 102, 116, 41]⟩ 2).run Ybaf.prog w = .ok [(0, 100, false), (1, 100, false)] w := by kernel_rfl
theorem and_two (T : Nat) (hT : T < 16777216) : bits .and .u32 (T : Int) 2 = if tbit T 22 = true then 2 else 0 := by
  have h := and_pow T 1 (by omega) (by omega)
  have e : ((2 ^ 1 : Nat) : Int) = 2 := rfl
  rw [e] at h
  rw [h]
  by_cases h1 : T / 2 ^ 1 % 2 = 1
  · rw [if_pos h1, if_pos (by simp [tbit] at h1 ⊢; omega)]
  · rw [if_neg h1, if_neg (by simp [tbit] at h1 ⊢; omega)]

/-- The trace's block. -/
def TrAt (w : World) (tb : Nat) (ns fl rl : Int) (T : Nat) (Tb k C : Nat) : Prop := w.heap[tb]? = some (.cells (trc ns (units T 24 : Nat) fl rl T (.slice (some ⟨Tb, 0, none⟩) k C)) 39 (0, 0))
/-- The loop's state: the nodes at ds are done, pos is next. -/
structure PS (w wr : World) (B0 tb Tb C : Nat) (cur : Array Value) (ns fl rl : Int) (T : Nat) (dv : Nat → Int) (L p0 pos : Nat) (ds : List Nat) (adk : Addr) (ab : Nat) : Prop where
  blk : adk.block = ab
  bs : BsAt wr adk (L - pos) dv pos
  tr : TrAt wr tb ns fl rl T Tb ds.length C
  rn : RN wr B0 tb Tb C cur T dv ds
  below : Below B0 w wr
  scan : ∀ ps b, Scan L T dv pos ps b → Scan L T dv p0 (ds ++ ps) b
  few : ds.length * 4 + p0 ≤ pos
  size : B0 ≤ wr.heap.size
/-- What parseNodes leaves. -/
def PDone (w w' : World) (B0 tb : Nat) (ns fl rl : Int) (T : Nat) (dv : Nat → Int) (L p0 : Nat) (e : Ending) : Prop :=
  ∃ (ps : List Nat) (b : Bool) (Tb C : Nat) (cur : Array Value), Scan L T dv p0 ps b ∧ (if b = true then ∃ t x, e = .returned (.iface t x) else e = .returned .nilIface) ∧ TrAt w' tb ns fl rl T Tb ps.length C ∧ RN w' B0 tb Tb C cur T dv ps ∧ Below B0 w w'
theorem PS.err {w wr w' : World} {B0 tb Tb C : Nat} {cur : Array Value} {ns fl rl : Int} {T : Nat} {dv : Nat → Int} {L p0 pos : Nat} {ds : List Nat} {adk : Addr} {ab : Nat} (h : PS w wr B0 tb Tb C cur ns fl rl T dv L p0 pos ds adk ab) (hb : Below wr.heap.size wr w') (hpos : pos < L) (hbad : bad L T dv pos) (t : TypeId) (x : Value) : PDone w w' B0 tb ns fl rl T dv L p0 (.returned (.iface t x)) := by
  have htb : tb < wr.heap.size := (Array.getElem?_eq_some_iff.1 h.tr).1
  have hs := h.scan [] true (.inr ⟨rfl, hpos, hbad⟩)
  rw [List.append_nil] at hs
  refine ⟨ds, true, Tb, C, cur, hs, ⟨t, x, rfl⟩, (hb.block tb htb).trans h.tr, h.rn.keep (hb.mono h.size) (fun g _ hg _ => hb.block g hg), h.below.trans (hb.mono h.size)⟩
theorem PS.fin {w wr : World} {B0 tb Tb C : Nat} {cur : Array Value} {ns fl rl : Int} {T : Nat} {dv : Nat → Int} {L p0 pos : Nat} {ds : List Nat} {adk : Addr} {ab : Nat} (h : PS w wr B0 tb Tb C cur ns fl rl T dv L p0 pos ds adk ab) (hpos : L ≤ pos) : PDone w wr B0 tb ns fl rl T dv L p0 (.returned .nilIface) := by
  have hs := h.scan [] false (.inl ⟨rfl, hpos⟩)
  rw [List.append_nil] at hs
  exact ⟨ds, false, Tb, C, cur, hs, rfl, h.tr, h.rn, h.below⟩

def lenV : Value → Nat
  | .slice _ n _ => n
  | _ => 0
/-- A place is made for the node at pos. -/
structure PR (w wr : World) (B0 tb Tb C : Nat) (cur : Array Value) (ns fl rl : Int) (T : Nat) (dv : Nat → Int) (L p0 pos : Nat) (ds : List Nat) (adk : Addr) (ab : Nat) : Prop where
  blk : adk.block = ab
  bs : BsAt wr adk (L - pos) dv pos
  tr : TrAt wr tb ns fl rl T Tb (ds.length + 1) C
  rn : RN wr B0 tb Tb C cur T dv ds
  room : ds.length < C
  below : Below B0 w wr
  size : B0 ≤ wr.heap.size
theorem TrAt.set5 {w : World} {tb : Nat} {ns fl rl : Int} {T Tb k C Tb' k' C' : Nat} (h : TrAt w tb ns fl rl T Tb k C) : TrAt (w.setCell ⟨tb, 5, none⟩ (.slice (some ⟨Tb', 0, none⟩) k' C')) tb ns fl rl T Tb' k' C' := by
  have h1 := heap_setCell_same w tb 5 _ 39 (.slice (some ⟨Tb', 0, none⟩) k' C') h
  simpa [TrAt] using h1
theorem PS.slide {w wr W : World} {B0 tb Tb C : Nat} {cur : Array Value} {ns fl rl : Int} {T : Nat} {dv : Nat → Int} {L p0 pos : Nat} {ds : List Nat} {adk : Addr} {ab : Nat} (h : PS w wr B0 tb Tb C cur ns fl rl T dv L p0 pos ds adk ab) (hW : Below wr.heap.size wr W) (hroom : ds.length < C) (htb : B0 ≤ tb) (hab : ab < B0) :
    PR w (W.setCell ⟨tb, 5, none⟩ (.slice (some ⟨Tb, 0, none⟩) (ds.length + 1) C)) B0 tb Tb C cur ns fl rl T dv L p0 pos ds adk ab := by
  have htbs : tb < wr.heap.size := (Array.getElem?_eq_some_iff.1 h.tr).1
  have hbW : Below B0 wr (W.setCell ⟨tb, 5, none⟩ (.slice (some ⟨Tb, 0, none⟩) (ds.length + 1) C)) := (hW.mono h.size).setCell (p := ⟨tb, 5, none⟩) htb _
  refine ⟨h.blk, fun i hi => ?_, TrAt.set5 (k := ds.length) (C := C) (Tb := Tb) ((hW.block tb htbs).trans h.tr), h.rn.keep hbW (fun g _ hg hne => (Below.heap_setCell _ _ _ _ hne).trans (hW.block g hg)), hroom, h.below.trans hbW, by rw [World.size_setCell]; have := hW.size; have := h.size; omega⟩
  exact (hbW.cell (by rw [add_block, h.blk]; exact hab)).trans (h.bs i hi)
theorem PS.grow {w wr W : World} {B0 tb Tb C : Nat} {cur : Array Value} {ns fl rl : Int} {T : Nat} {dv : Nat → Int} {L p0 pos : Nat} {ds : List Nat} {adk : Addr} {ab : Nat} (h : PS w wr B0 tb Tb C cur ns fl rl T dv L p0 pos ds adk ab) (hW : Below wr.heap.size wr W) (hC : ds.length = C) (htb : B0 ≤ tb) (hab : ab < B0) (C' : Nat) (hC' : C + 1 ≤ C') (hm : C' ≤ maxLen) :
    PR w ((W.alloc (.cells (cur ++ z19 ++ Builtin.zeroCells z19 (C' - (C + 1))) 34)).setCell ⟨tb, 5, none⟩ (.slice (some ⟨W.heap.size, 0, none⟩) (ds.length + 1) C')) B0 tb W.heap.size C' (cur ++ z19 ++ Builtin.zeroCells z19 (C' - (C + 1))) ns fl rl T dv L p0 pos ds adk ab := by
  have htbs : tb < wr.heap.size := (Array.getElem?_eq_some_iff.1 h.tr).1
  have hWs := hW.size
  have hg := rn_grow h.rn hC hW htbs h.size C' hC' hm
  have hb1 : Below wr.heap.size wr (W.alloc (.cells (cur ++ z19 ++ Builtin.zeroCells z19 (C' - (C + 1))) 34)) := hW.alloc hWs _
  have hb2 : Below B0 wr ((W.alloc (.cells (cur ++ z19 ++ Builtin.zeroCells z19 (C' - (C + 1))) 34)).setCell ⟨tb, 5, none⟩ (.slice (some ⟨W.heap.size, 0, none⟩) (ds.length + 1) C')) := (hb1.mono h.size).setCell (p := ⟨tb, 5, none⟩) htb _
  refine ⟨h.blk, fun i hi => (hb2.cell (by rw [add_block, h.blk]; exact hab)).trans (h.bs i hi), TrAt.set5 (k := ds.length) (C := C) (Tb := Tb) ((hb1.block tb htbs).trans h.tr),
    hg.keep ((Below.refl B0 _).setCell (p := ⟨tb, 5, none⟩) htb _) (fun g _ _ hne => Below.heap_setCell _ _ _ _ hne), by omega, h.below.trans hb2, ?_⟩
  rw [World.size_setCell]
  have := h.size
  simp
  omega
theorem need_ge {L T : Nat} {dv : Nat → Int} {pos : Nat} (h : ¬ bad L T dv pos) : 4 ≤ need T dv pos ∧ need T dv pos ≤ L - pos := by
  unfold bad at h
  have h1 : ¬ (units T 24 = 0 ∧ tbit T 22 = false) := fun e => h (.inl e)
  have h2 : ¬ L - pos < need T dv pos := fun e => h (.inr (.inr e))
  refine ⟨?_, by omega⟩
  unfold need
  by_cases hb : tbit T 22 = true
  · rw [if_pos hb]; omega
  · rw [if_neg hb]
    have : units T 24 ≠ 0 := fun e => h1 ⟨e, by simpa using hb⟩
    omega
theorem PR.next {w wr w' : World} {B0 tb Tb C : Nat} {cur : Array Value} {ns fl rl : Int} {T : Nat} {dv : Nat → Int} {L p0 pos ck : Nat} {ds : List Nat} {adk : Addr} {ab : Nat} (h : PR w wr B0 tb Tb C cur ns fl rl T dv L p0 pos ds adk ab) {wr0 : World} {Tb0 C0 : Nat} {cur0 : Array Value} (h0 : PS w wr0 B0 tb Tb0 C0 cur0 ns fl rl T dv L p0 pos ds adk ab)
    (hpos : pos < L) (hbad : ¬ bad L T dv pos) (hck : L - pos ≤ ck) (hab : ab < B0) {U U' : Value} {c2 : Nat} (hU : cur[ds.length * 19 + 16]? = some U)
    (hst : NStep Tb (nrow cur (ds.length * 19) T dv pos (pos + 4 * units T 24) (.slice (some (cutA (cutA adk ck (4 * units T 24)) c2 4)) (need T dv pos - 4 * units T 24 - 4) (c2 - 4)) U') U.ownBlock wr w')
    (hown : w'.ownsRow B0 23 1 U' (und T dv (pos + ssum T 16) 10).length ((und T dv (pos + ssum T 16) 10).map (Value.int .u32))) (hlie : U'.ownBlock = U.ownBlock ∨ ∃ g, U'.ownBlock = some g ∧ wr.heap.size ≤ g) (hc2 : need T dv pos - 4 * units T 24 ≤ c2) :
    PS w w' B0 tb Tb C (nrow cur (ds.length * 19) T dv pos (pos + 4 * units T 24) (.slice (some (cutA (cutA adk ck (4 * units T 24)) c2 4)) (need T dv pos - 4 * units T 24 - 4) (c2 - 4)) U') ns fl rl T dv L p0 (pos + need T dv pos) (ds ++ [pos]) (cutA adk ck (need T dv pos)) ab := by
  obtain ⟨n4, nL⟩ := need_ge hbad
  have htbs : tb < wr.heap.size := (Array.getElem?_eq_some_iff.1 h.tr).1
  obtain ⟨V, l, xs, v1, v2, v3, v4⟩ := h.rn.und ds.length h.room
  obtain rfl := Option.some.inj (v1.symm.trans hU)
  have hbw : Below B0 wr w' := hst.below B0 h.rn.base (fun g hg => (v2.lt g hg).1) h.size
  have hnge : 4 * units T 24 ≤ need T dv pos := by unfold need; omega
  have hdat : tbit T 22 = true → BsAt wr (cutA (cutA adk ck (4 * units T 24)) c2 4) (need T dv pos - 4 * units T 24 - 4) dv (pos + 4 * units T 24 + 4) := fun hb => by
    have h4 : 4 + 4 * units T 24 ≤ need T dv pos := by unfold need; rw [if_pos hb]; omega
    have e1 := h.bs.cut ck (4 * units T 24) (need T dv pos) hnge (by omega) (by omega)
    have e2 := e1.cut c2 4 (need T dv pos - 4 * units T 24) (by omega) (Nat.le_refl _) hc2
    exact e2
  refine ⟨by rw [cutA_block]; exact h.blk, ?_, ?_, rn_push h.rn h.room pos hU hst hown hlie htbs h.size hdat (by rw [cutA_block, cutA_block, h.blk]; exact hab), h.below.trans hbw, fun ps b hs => ?_, ?_, Nat.le_trans h.size hst.size⟩
  · have e1 := h.bs.cut ck (need T dv pos) (L - pos) (by omega) (Nat.le_refl _) (by omega)
    intro i hi
    refine (hbw.cell (by rw [add_block, cutA_block, h.blk]; exact hab)).trans ?_
    exact e1 i (by omega)
  · have := (hst.other tb htbs h.rn.ne (fun e => v4 e.symm)).trans h.tr
    simpa [TrAt] using this
  · rw [List.append_assoc]
    exact h0.scan _ b ⟨rfl, hpos, hbad, hs⟩
  · have := h0.few
    simp
    omega

theorem PS.keep {w wr W : World} {B0 tb Tb C : Nat} {cur : Array Value} {ns fl rl : Int} {T : Nat} {dv : Nat → Int} {L p0 pos : Nat} {ds : List Nat} {adk : Addr} {ab : Nat} (h : PS w wr B0 tb Tb C cur ns fl rl T dv L p0 pos ds adk ab) (hW : Below wr.heap.size wr W) (hab : ab < B0) : PS w W B0 tb Tb C cur ns fl rl T dv L p0 pos ds adk ab := by
  have htbs : tb < wr.heap.size := (Array.getElem?_eq_some_iff.1 h.tr).1
  exact ⟨h.blk, h.bs.keep hW (Nat.le_refl _), (hW.block tb htbs).trans h.tr, h.rn.keep (hW.mono h.size) (fun g _ hg _ => hW.block g hg), h.below.trans (hW.mono h.size), h.scan, h.few, Nat.le_trans h.size hW.size⟩

theorem PR.keep {w wr W : World} {B0 tb Tb C : Nat} {cur : Array Value} {ns fl rl : Int} {T : Nat} {dv : Nat → Int} {L p0 pos : Nat} {ds : List Nat} {adk : Addr} {ab : Nat} (h : PR w wr B0 tb Tb C cur ns fl rl T dv L p0 pos ds adk ab) (hW : Below wr.heap.size wr W) : PR w W B0 tb Tb C cur ns fl rl T dv L p0 pos ds adk ab := by
  have htbs : tb < wr.heap.size := (Array.getElem?_eq_some_iff.1 h.tr).1
  exact ⟨h.blk, h.bs.keep hW (Nat.le_refl _), (hW.block tb htbs).trans h.tr, h.rn.keep (hW.mono h.size) (fun g _ hg _ => hW.block g hg), h.room, h.below.trans (hW.mono h.size), Nat.le_trans h.size hW.size⟩

/-- What the loop reckons as the element's octets. -/
def want (T : Nat) (dv : Nat → Int) (pos m : Nat) : Nat := 4 * units T 24 + if tbit T 22 = true then 4 + (if 4 * units T 24 < m then 4 * (dv (pos + 4 * units T 24)).toNat else 0) else 0
theorem want_bad {L T : Nat} {dv : Nat → Int} {pos : Nat} (h : L - pos < want T dv pos (L - pos)) : bad L T dv pos := by
  unfold bad
  unfold want at h
  by_cases hb : tbit T 22 = true
  · rw [if_pos hb] at h
    by_cases hf : 4 * units T 24 < L - pos
    · rw [if_pos hf] at h
      refine .inr (.inr ?_)
      unfold need
      rw [if_pos hb]
      exact h
    · exact .inr (.inl ⟨hb, by omega⟩)
  · rw [if_neg hb] at h
    refine .inr (.inr ?_)
    unfold need
    rw [if_neg hb]
    exact h
theorem want_fit {L T : Nat} {dv : Nat → Int} {pos : Nat} (h0 : ¬ (units T 24 = 0 ∧ tbit T 22 = false)) (h : want T dv pos (L - pos) ≤ L - pos) : ¬ bad L T dv pos ∧ want T dv pos (L - pos) = need T dv pos ∧ (tbit T 22 = true → 4 * units T 24 + 4 ≤ need T dv pos) := by
  have he : want T dv pos (L - pos) = need T dv pos ∧ (tbit T 22 = true → 4 * units T 24 < L - pos) := by
    unfold want at h ⊢
    unfold need
    by_cases hb : tbit T 22 = true
    · rw [if_pos hb] at h
      have hf : 4 * units T 24 < L - pos := by omega
      rw [if_pos hb, if_pos hf, if_pos hb]
      exact ⟨rfl, fun _ => hf⟩
    · rw [if_neg hb, if_neg hb]
      exact ⟨rfl, fun e => absurd e hb⟩
  refine ⟨?_, he.1, fun hb => by unfold need; rw [if_pos hb]; omega⟩
  unfold bad
  rintro (h1 | h1 | h1)
  · exact h0 h1
  · have := he.2 h1.1; omega
  · omega

theorem elem27 : Ybaf.prog.elem 27 = 34 := by kernel_rfl
theorem cut_n27 (Tb n c hi : Nat) (h2 : hi ≤ c) (w : World) : (Instr.slice 27 (.slice (some ⟨Tb, 0, none⟩) n c) none (some (.int .i64 (hi : Int))) none).run Ybaf.prog w = .ok (.slice (some ⟨Tb, 0, none⟩) hi c) w := by
  have ht : Ybaf.prog.underlying 27 = some (.slice (Ybaf.prog.elem 27)) := by rw [elem27]; exact Ybaf.underlying27
  rw [run_slice_h w 27 (some ⟨Tb, 0, none⟩) n c ht .i64 _ (by omega) (by omega), elem27]
  simp [Result.andThen_ok, sliced, Addr.add]
theorem inf34 : (Ybaf.prog.info? 34).map (fun i => (i.zero, i.size, i.bytes)) = some (some (.agg z19), 19, 184) := by kernel_rfl
/-- One zero node more behind a full row. -/
theorem append_node (w : World) (Tb C : Nat) (cur : Array Value) (h : w.heap[Tb]? = some (.cells cur 34 (0, 0))) (hs : cur.size = C * 19) (hC : C ≤ 1000000) :
    (Builtin.append_ #[27, 27] 27 #[.slice (some ⟨Tb, 0, none⟩) C C, .slice (some ⟨w.heap.size, 0, none⟩) 1 1]).run Ybaf.prog (w.alloc (.cells z19 34)) =
      .ok (.slice (some ⟨w.heap.size + 1, 0, none⟩) (C + 1) (grownCap (w.alloc (.cells z19 34)) (C + 1) C 34)) ((w.alloc (.cells z19 34)).drew.alloc (.cells (cur ++ z19 ++ Builtin.zeroCells z19 (grownCap (w.alloc (.cells z19 34)) (C + 1) C 34 - (C + 1))) 34)) := by
  obtain ⟨i, hi, h0, h1, h2⟩ := info_parts inf34
  have hlt : Tb < w.heap.size := (Array.getElem?_eq_some_iff.1 h).1
  have ha : (w.alloc (.cells z19 34)).heap[Tb]? = some (.cells cur 34 (0, 0)) := (Below.heap_alloc _ _ _ hlt).trans h
  have hn : (w.alloc (.cells z19 34)).heap[w.heap.size]? = some (.cells z19 34) := heap_alloc_new w _
  have := run_append_grow (P := Ybaf.prog) (w.alloc (.cells z19 34)) 27 27 34 i (.agg z19) Ybaf.underlying27 hi h0 ⟨Tb, 0, none⟩ C C cur.toList (by rw [h1]; simpa using hs) (fun j v hj => by
      have hj' : cur[j]? = some v := by simpa using hj
      have e : (⟨Tb, 0, none⟩ : Addr).add j = ⟨Tb, j, none⟩ := by unfold Addr.add; split <;> simp_all
      rw [e]; exact cell_of ha hj') ⟨w.heap.size, 0, none⟩ 1 1 z19.toList (by rw [h1]; rfl) (fun j v hj => by
      have hj' : z19[j]? = some v := by simpa using hj
      have e : (⟨w.heap.size, 0, none⟩ : Addr).add j = ⟨w.heap.size, j, none⟩ := by unfold Addr.add; split <;> simp_all
      rw [e]; exact cell_of hn hj') (by omega) (by omega) (by rw [h2]; exact growslice_fits_wide (by omega) (by omega))
  simpa [Value.cells] using this

theorem frozen_of {w : World} {tb i : Nat} {cs : Array Value} {ty : TypeId} (h : w.heap[tb]? = some (.cells cs ty (0, 0))) : w.frozen? ⟨tb, i, none⟩ = false := by simp [World.frozen?, h]
theorem append_node' (w : World) (Tb C : Nat) (cur : Array Value) (h : w.heap[Tb]? = some (.cells cur 34 (0, 0))) (hs : cur.size = C * 19) (hC : C ≤ 1000000) : ∃ (W : World) (C' : Nat), Below w.heap.size w W ∧ C + 1 ≤ C' ∧ C' ≤ maxLen ∧
    (Builtin.append_ #[27, 27] 27 #[.slice (some ⟨Tb, 0, none⟩) C C, .slice (some ⟨w.heap.size, 0, none⟩) 1 1]).run Ybaf.prog (w.alloc (.cells z19 34)) =
      .ok (.slice (some ⟨W.heap.size, 0, none⟩) (C + 1) C') (W.alloc (.cells (cur ++ z19 ++ Builtin.zeroCells z19 (C' - (C + 1))) 34)) := by
  have h1 := append_node w Tb C cur h hs hC
  refine ⟨(w.alloc (.cells z19 34)).drew, grownCap (w.alloc (.cells z19 34)) (C + 1) C 34, ((Below.refl _ _).alloc (Nat.le_refl _) _).drew, grownCap_ge _ _ _ _, grownCap_le_maxLen _ _ _ _ (by unfold maxLen; omega), ?_⟩
  have e : (w.alloc (.cells z19 34)).drew.heap.size = w.heap.size + 1 := by simp
  rw [h1, e]

theorem wpList_append_run {P : Program} {w : World} {ops : Array Oper} {rest : List Oper} {o : Oper} {a : Act} {Q : Exit → Act → World → Prop} (hgd : o.guard = none) (s x : Operand) (t u : TypeId)
    (ho : o.op = .call { callee := .builtin .append, args := #[s, x], argTypes := #[t, u] }) (v y : Value) (hs : a.eval s = v) (hx : a.eval x = y) (v' : Value) (w' : World) (hr : (Builtin.append_ #[t, u] o.type #[v, y]).run P w = .ok v' w')
    (h : wpList P ops Q rest (a.put o.dst v') w') : wpList P ops Q (o :: rest) a w :=
  wpList_plain hgd fun _ hK => by
    unfold Oper.wp execOp
    simp only [ho, resolve, invoke, builtin, Sem.run_bind, Sem.run_pure, Result.andThen_ok, List.map_toArray, List.map_cons, List.map_nil, hs, hx, hr]
    exact hK _ _ h

end Go.Proofs.YbulkdycwFmt
