/- readFields: by contract. -/
import Derived.Test.YbulkdycwFmtHdr
namespace Go.Proofs.YbulkdycwFmt
open Go.RowKit Go.Shelf
set_option linter.unusedSimpArgs false
set_option linter.unusedVariables false
attribute [local go_sem] Oper.semAt_some

/-- Of what was there only block tb (cells of type ty) has turned. -/
structure BStep (ty tb : Nat) (cs : Array Value) (w w' : World) : Prop where
  par : w'.heap[tb]? = some (.cells cs ty (0, 0))
  other : ∀ j, j < w.heap.size → j ≠ tb → w'.heap[j]? = w.heap[j]?
  below : ∀ B, B ≤ tb → Below B w w'
  size : w.heap.size ≤ w'.heap.size
  tape : w'.tape = w.tape
theorem BStep.set {ty tb : Nat} {cs : Array Value} {w w' : World} (h : BStep ty tb cs w w') (i : Nat) (v : Value) : BStep ty tb (cs.setIfInBounds i v) w (w'.setCell ⟨tb, i, none⟩ v) :=
  ⟨heap_setCell_same _ tb i cs ty v h.par, fun j hj hne => (Below.heap_setCell _ _ _ _ hne).trans (h.other j hj hne), fun B hB => (h.below B hB).setCell (p := ⟨tb, i, none⟩) hB v, by rw [World.size_setCell]; exact h.size, by rw [((Below.refl 0 w').setCell (p := ⟨tb, i, none⟩) (Nat.zero_le _) v).tape]; exact h.tape⟩
/-- A store into a block laid since. -/
theorem BStep.setNew {ty tb : Nat} {cs : Array Value} {w w' : World} (h : BStep ty tb cs w w') (a : Addr) (v : Value) (ha : w.heap.size ≤ a.block) (htb : tb < w.heap.size) : BStep ty tb cs w (w'.setCell a v) :=
  ⟨(Below.heap_setCell _ _ _ _ (by omega)).trans h.par, fun j hj hne => (Below.heap_setCell _ _ _ _ (by omega)).trans (h.other j hj hne), fun B hB => (h.below B hB).setCell (p := a) (by omega) v, by rw [World.size_setCell]; exact h.size, by rw [((Below.refl 0 w').setCell (p := a) (Nat.zero_le _) v).tape]; exact h.tape⟩
theorem BStep.below' {ty tb : Nat} {cs : Array Value} {w w1 w2 : World} (h : BStep ty tb cs w w1) (hb : Below w1.heap.size w1 w2) : BStep ty tb cs w w2 :=
  ⟨(hb.block tb (Array.getElem?_eq_some_iff.1 h.par).1).trans h.par, fun j hj hne => (hb.block j (Nat.lt_of_lt_of_le hj h.size)).trans (h.other j hj hne),
    fun B hB => (h.below B hB).trans (hb.mono (by have := (Array.getElem?_eq_some_iff.1 h.par).1; omega)), Nat.le_trans h.size hb.size, hb.tape.trans h.tape⟩
theorem BStep.alloc {ty tb : Nat} {cs : Array Value} {w w1 : World} (h : BStep ty tb cs w w1) (o : Obj) : BStep ty tb cs w (w1.alloc o) := h.below' ((Below.refl _ _).alloc (Nat.le_refl _) o)
theorem BStep.drew {ty tb : Nat} {cs : Array Value} {w w1 : World} (h : BStep ty tb cs w w1) : BStep ty tb cs w w1.drew := h.below' ((Below.refl _ _).drew)
theorem BStep.putObj {ty tb : Nat} {cs : Array Value} {w w1 : World} (h : BStep ty tb cs w w1) {l : Nat} {o : Obj} (o' : Obj) (hl : w.heap.size ≤ l) (htb : tb < w.heap.size) : BStep ty tb cs w (w1.putObj l o') :=
  ⟨(World.putObj_heap_other (by omega)).trans h.par, fun j hj hne => (World.putObj_heap_other (by omega)).trans (h.other j hj hne),
    fun B hB => (h.below B hB).trans ⟨rfl, rfl, rfl, by simp, fun k hk => World.putObj_heap_other (by omega)⟩, by simpa using h.size, h.tape⟩
theorem BStep.refl {ty tb : Nat} {cs : Array Value} {w : World} (h : w.heap[tb]? = some (.cells cs ty (0, 0))) : BStep ty tb cs w w :=
  ⟨h, fun _ _ _ => rfl, fun B _ => Below.refl _ _, Nat.le_refl _, rfl⟩
theorem BStep.cell {ty tb : Nat} {cs : Array Value} {w w' : World} (h : BStep ty tb cs w w') {i : Nat} {v : Value} (hv : cs[i]? = some v) : w'.cell? ⟨tb, i, none⟩ = some v := by
  simp [World.cell?, h.par, hv]
theorem BStep.frozen {ty tb : Nat} {cs : Array Value} {w w' : World} (h : BStep ty tb cs w w') (i : Nat) : w'.frozen? ⟨tb, i, none⟩ = false := by
  simp [World.frozen?, h.par]
theorem BsAt.bstep {ty tb : Nat} {cs : Array Value} {w w' : World} {ad : Addr} {n p : Nat} {dv : Nat → Int} (h : BsAt w ad n dv p) (hs : BStep ty tb cs w w') (hne : ad.block ≠ tb) : BsAt w' ad n dv p := fun i hi => by
  have h1 := h i hi
  rw [World.cell?_of_block (w := w) (hs.other _ (lt_of_cell h1) (by rw [add_block]; exact hne))]
  exact h1

/-- The row behind k entries of the table. -/
def frow (cur : Array Value) (o T : Nat) (dv : Nat → Int) (p : Nat) : Nat → Array Value
  | 0 => cur
  | k + 1 => if tbit T (fbit k) = true then (frow cur o T dv p k).setIfInBounds (o + k) (.int .u64 (be dv (p + ssum T k) (fsz k))) else frow cur o T dv p k
theorem frow_size (cur : Array Value) (o T : Nat) (dv : Nat → Int) (p k : Nat) : (frow cur o T dv p k).size = cur.size := by
  induction k with
  | zero => rfl
  | succ k ih => rw [frow]; split <;> simp [ih]
theorem ssum_mono (T : Nat) {k m : Nat} (h : k ≤ m) : ssum T k ≤ ssum T m := by
  induction m with
  | zero => rw [show k = 0 by omega]; exact Nat.le_refl _
  | succ m ih =>
    rcases Nat.lt_or_ge m k with h' | h'
    · rw [show k = m + 1 by omega]; exact Nat.le_refl _
    · have := ih h'
      rw [ssum]; omega

/-- The loop's state behind k entries: w: the world where readFields began; B1 .. B5: her own blocks. -/
structure RF (w W : World) (B1 B2 B3 B4 B5 Tb o n c T p k : Nat) (ab : Nat) (dv : Nat → Int) (nv : Nat → ByteArray) (cur : Array Value) : Prop where
  box : Boxes W nv B4 B5 T
  specs : W.cell? ⟨B1, 0, none⟩ = some (.slice (some ⟨1, 0, none⟩) 16 16)
  data : ∃ ad : Addr, ad.block = ab ∧ W.cell? ⟨B2, 0, none⟩ = some (.slice (some ad) (n - ssum T k) (c - ssum T k)) ∧ BsAt W ad (n - ssum T k) dv (p + ssum T k)
  dfro : W.frozen? ⟨B2, 0, none⟩ = false
  vals : W.cell? ⟨B3, 0, none⟩ = some (.slice (some ⟨Tb, o, none⟩) 16 16)
  step : BStep 34 Tb (frow cur o T dv p k) w W
  apart : w.heap.size ≤ B1 ∧ w.heap.size ≤ B2 ∧ w.heap.size ≤ B3 ∧ w.heap.size ≤ B4 ∧ w.heap.size ≤ B5 ∧ B1 ≠ B2 ∧ B3 ≠ B2 ∧ B4 ≠ B2 ∧ B5 ≠ B2 ∧ Tb < w.heap.size ∧ 1 < w.heap.size ∧ ab < w.heap.size ∧ ab ≠ Tb ∧ 1 < Tb

theorem RF.alloc {w W : World} {B1 B2 B3 B4 B5 Tb o n c T p k ab : Nat} {dv : Nat → Int} {nv : Nat → ByteArray} {cur : Array Value} (h : RF w W B1 B2 B3 B4 B5 Tb o n c T p k ab dv nv cur) (ob : Obj) : RF w (W.alloc ob) B1 B2 B3 B4 B5 Tb o n c T p k ab dv nv cur := by
  obtain ⟨ad, e, hc, hbs⟩ := h.data
  exact ⟨h.box.cells (fun a v hc => cell_alloc_of hc ob), cell_alloc_of h.specs ob, ⟨ad, e, cell_alloc_of hc ob, fun i hi => cell_alloc_of (hbs i hi) ob⟩, (frozen_alloc_of hc ob).trans h.dfro, cell_alloc_of h.vals ob, h.step.alloc ob, h.apart⟩
theorem RF.putObj {w W : World} {B1 B2 B3 B4 B5 Tb o n c T p k ab : Nat} {dv : Nat → Int} {nv : Nat → ByteArray} {cur : Array Value} (h : RF w W B1 B2 B3 B4 B5 Tb o n c T p k ab dv nv cur) {l : Nat} {ob : Obj} (o' : Obj) (hB : w.heap.size ≤ l) (hl : W.heap[l]? = some ob) (ho : ob.isCells = false) : RF w (W.putObj l o') B1 B2 B3 B4 B5 Tb o n c T p k ab dv nv cur := by
  obtain ⟨ad, e, hc, hbs⟩ := h.data
  exact ⟨h.box.cells (fun a v hc => putObj_cell o' hc hl ho), putObj_cell o' h.specs hl ho, ⟨ad, e, putObj_cell o' hc hl ho, fun i hi => putObj_cell o' (hbs i hi) hl ho⟩, (putObj_frozen o' hc hl ho).trans h.dfro, putObj_cell o' h.vals hl ho, h.step.putObj (o := ob) o' hB h.apart.2.2.2.2.2.2.2.2.2.1, h.apart⟩
theorem RF.skip {w W : World} {B1 B2 B3 B4 B5 Tb o n c T p k ab : Nat} {dv : Nat → Int} {nv : Nat → ByteArray} {cur : Array Value} (h : RF w W B1 B2 B3 B4 B5 Tb o n c T p k ab dv nv cur) (hann : tbit T (fbit k) = false) : RF w W B1 B2 B3 B4 B5 Tb o n c T p (k + 1) ab dv nv cur := by
  have e1 : ssum T (k + 1) = ssum T k := by rw [ssum, if_neg (by simp [hann])]; rfl
  have e2 : frow cur o T dv p (k + 1) = frow cur o T dv p k := by rw [frow, if_neg (by simp [hann])]
  exact ⟨h.box, h.specs, by rw [e1]; exact h.data, h.dfro, h.vals, by rw [e2]; exact h.step, h.apart⟩

theorem keeps_below {W w2 : World} (h : Below W.heap.size W w2) : KeepsOthers W w2 :=
  ⟨h.size, fun k o hk _ => (h.block k (Array.getElem?_eq_some_iff.1 hk).1).trans hk⟩
/-- One round: behind the call of readUint (the world w2): the store into the row, the store into b's box. -/
theorem RF.round {w W w2 : World} {B1 B2 B3 B4 B5 Tb o n c T p k ab : Nat} {dv : Nat → Int} {nv : Nat → ByteArray} {cur : Array Value} (h : RF w W B1 B2 B3 B4 B5 Tb o n c T p k ab dv nv cur) (hb : Below W.heap.size W w2) (hann : tbit T (fbit k) = true) (hk : k < 16) (hs : ssum T 16 ≤ n) (hnc : n ≤ c)
    {ad : Addr} (e : ad.block = ab) (hbs : BsAt W ad (n - ssum T k) dv (p + ssum T k)) :
    RF w ((w2.setCell ⟨Tb, o + k, none⟩ (.int .u64 (be dv (p + ssum T k) (fsz k)))).setCell ⟨B2, 0, none⟩ (.slice (some (cutA ad (c - ssum T k) (fsz k))) (n - ssum T k - fsz k) (c - ssum T k - fsz k))) B1 B2 B3 B4 B5 Tb o n c T p (k + 1) ab dv nv cur := by
  obtain ⟨p1, p2, p3, p4, p5, n1, n3, n4, n5, htb, hw1, hab, habn, htb1⟩ := h.apart
  have e1 : ssum T (k + 1) = ssum T k + fsz k := by rw [ssum, if_pos hann]
  have e2 : frow cur o T dv p (k + 1) = (frow cur o T dv p k).setIfInBounds (o + k) (.int .u64 (be dv (p + ssum T k) (fsz k))) := by rw [frow, if_pos hann]
  have hle : ssum T (k + 1) ≤ ssum T 16 := ssum_mono T (by omega)
  have kc : ∀ (a : Addr) v, W.cell? a = some v → w2.cell? a = some v := fun a v hc => (hb.cell (lt_of_cell hc)).trans hc
  have k2 : ∀ (a : Addr) v, W.cell? a = some v → a.block ≠ Tb → a.block ≠ B2 → ((w2.setCell ⟨Tb, o + k, none⟩ (.int .u64 (be dv (p + ssum T k) (fsz k)))).setCell ⟨B2, 0, none⟩ (.slice (some (cutA ad (c - ssum T k) (fsz k))) (n - ssum T k - fsz k) (c - ssum T k - fsz k))).cell? a = some v := fun a v hc h1 h2 => set_other _ (set_other _ (kc a v hc) h1) h2
  obtain ⟨ad0, _, hc0, _⟩ := h.data
  refine ⟨⟨fun i hi => ⟨k2 _ _ (h.box.1 i hi).1 (by show 1 ≠ Tb; omega) (by show 1 ≠ B2; omega), k2 _ _ (h.box.1 i hi).2.1 (by show 1 ≠ Tb; omega) (by show 1 ≠ B2; omega), k2 _ _ (h.box.1 i hi).2.2 (by show 1 ≠ Tb; omega) (by show 1 ≠ B2; omega)⟩, k2 _ _ h.box.2.1 (by show B4 ≠ Tb; omega) n4, k2 _ _ h.box.2.2 (by show B5 ≠ Tb; omega) n5⟩,
    k2 _ _ h.specs (by show B1 ≠ Tb; omega) n1, ⟨cutA ad (c - ssum T k) (fsz k), ?_, ?_, ?_⟩, ?_, k2 _ _ h.vals (by show B3 ≠ Tb; omega) n3, ?_, h.apart⟩
  · rw [cutA_block]; exact e
  · rw [e1, ← Nat.sub_sub, ← Nat.sub_sub]
    exact World.cell?_setCell_same' _ _ _ (by
      rw [set_other _ (kc _ _ hc0) (by show B2 ≠ Tb; omega)]; rfl)
  · rw [e1, ← Nat.sub_sub, ← Nat.add_assoc]
    have hcut := hbs.cut (c - ssum T k) (fsz k) (n - ssum T k) (by omega) (Nat.le_refl _) (by omega)
    intro i hi
    have hcc := hcut i hi
    refine k2 _ _ hcc ?_ ?_
    · rw [add_block, cutA_block, e]; exact habn
    · rw [add_block, cutA_block, e]; show ab ≠ B2; omega
  · rw [World.frozen?_setCell, World.frozen?_setCell, hb.frozen (p := ⟨B2, 0, none⟩) (lt_of_cell hc0)]; exact h.dfro
  · rw [e2]
    exact ((h.step.below' hb).set (o + k) _).setNew ⟨B2, 0, none⟩ _ p2 htb

set_option maxRecDepth 100000 in
set_option maxHeartbeats 2000000 in
theorem readFields_in (m : Nat) (hm : 4 ≤ m) (T : Nat) (hT : T < 16777216) (nv : Nat → ByteArray) (ad : Addr) (n c p : Nat) (dv : Nat → Int) (Tb o : Nat) (cur : Array Value) (w : World) (ht : Table w nv) (hw : 1 < w.heap.size) (hd : Bytes dv) (hb : BsAt w ad n dv p) (hnc : n ≤ c) (hs : ssum T 16 ≤ n)
    (hr : w.heap[Tb]? = some (.cells cur 34 (0, 0))) (ho : o + 16 ≤ cur.size) (hTb : 1 < Tb) (hne : ad.block ≠ Tb) (hab0 : ad.block < w.heap.size) :
    CallsIn Fence.wide m Ybaf.prog 23 #[.slice (some ⟨1, 0, none⟩) 16 16, .int .u32 (T : Int), .slice (some ad) n c, .slice (some ⟨Tb, o, none⟩) 16 16] w fun e w' =>
      (∃ ad' : Addr, ad'.block = ad.block ∧ e = .returned (.slice (some ad') (n - ssum T 16) (c - ssum T 16)) ∧ BsAt w' ad' (n - ssum T 16) dv (p + ssum T 16)) ∧ BStep 34 Tb (frow cur o T dv p 16) w w' := by
  have hTs : Tb < w.heap.size := (Array.getElem?_eq_some_iff.1 hr).1
  have h1 : 1 ≤ m := by omega
  refine callsIn_of_wp_marks Ybaf.func23 rfl trivial ?_ rfl
  simp only [Ybaf.ntmps23, List.size_toArray, List.length_cons, List.length_nil, Nat.reduceAdd, Nat.reduceSub, Array.replicate_succ, Array.replicate_zero, List.push_toArray, List.append_toArray, List.nil_append, List.cons_append]
  gi_wp2_with (first | (refine ⟨trivial, ?_⟩; gi_at_call 29; refine (callsIn_wide.2 (announced_calls T _)).mono ?_; rintro e w' ⟨rfl, rfl⟩) | (gi_at_call 29; refine (callsIn_wide.2 (announced_calls T _)).mono ?_; rintro e w' ⟨rfl, rfl⟩))
  have HB0 : Hid (Below w.heap.size w (((((w.alloc (.cells #[.slice (some ⟨1, 0, none⟩) 16 16] 70)).alloc (.cells #[.slice (some ad) n c] 24)).alloc (.cells #[.slice (some ⟨Tb, o, none⟩) 16 16] 74)).alloc (.cells #[.slice (some ⟨1, 0, none⟩) 16 16] 70)).alloc (.cells #[.int .u32 (T : Int)] 37))) :=
    (((((Below.refl _ w).alloc (Nat.le_refl _) _).alloc (by simp) _).alloc (by simp; omega) _).alloc (by simp; omega) _).alloc (by simp; omega) _
  refine wpIn_range_iter (gf := 33) (lb := #[.pointer (some ⟨w.heap.size + 1 + 1 + 1, 0, none⟩), .pointer (some ⟨w.heap.size + 1 + 1 + 1 + 1, 0, none⟩)]) rfl (enters_of Ybaf.func33 (by kernel_rfl) rfl)
    (fun k W => RF w W w.heap.size (w.heap.size + 1) (w.heap.size + 1 + 1) (w.heap.size + 1 + 1 + 1) (w.heap.size + 1 + 1 + 1 + 1) Tb o n c T p k ad.block dv nv cur)
    (closure_iter (m - 1) (by omega) T _ _ hT nv _ (fun k W h => h.box)) rfl
    ⟨fun o h => h.alloc o, fun o' hB h hl ho => h.putObj o' (by simp at hB; omega) hl ho⟩
    (fun k W hk hann h => h.skip hann) ?start
    (fun k => { tmps := #[.slice (some ⟨1, 0, none⟩) 16 16, .int .u32 (T : Int), .slice (some ad) n c, .slice (some ⟨Tb, o, none⟩) 16 16, .pointer (some ⟨w.heap.size, 0, none⟩), undef, .pointer (some ⟨w.heap.size + 1, 0, none⟩), .pointer (some ⟨w.heap.size + 1 + 1, 0, none⟩), .slice none 0 0, .int .i64 (k : Int), undef,
      .slice (some ⟨1, 0, none⟩) 16 16, .int .u32 (T : Int), .func (.func 33) #[] #[.pointer (some ⟨w.heap.size + 1 + 1 + 1, 0, none⟩), .pointer (some ⟨w.heap.size + 1 + 1 + 1 + 1, 0, none⟩)], .int .i64 (k : Int), undef, undef, undef, undef, undef, undef, undef, undef, undef, undef, undef, undef, undef, undef, undef, undef], defers := [] }) ?assign ?body ?done
  case start =>
    have e1 := cell_new0 w (.slice (some ⟨1, 0, none⟩) 16 16) 70
    have e2 := cell_new0 (w.alloc (.cells #[.slice (some ⟨1, 0, none⟩) 16 16] 70)) (.slice (some ad) n c) 24
    have g2 := frozen_new0 (w.alloc (.cells #[.slice (some ⟨1, 0, none⟩) 16 16] 70)) (.slice (some ad) n c) 24
    have e3 := cell_new0 ((w.alloc (.cells #[.slice (some ⟨1, 0, none⟩) 16 16] 70)).alloc (.cells #[.slice (some ad) n c] 24)) (.slice (some ⟨Tb, o, none⟩) 16 16) 74
    have e4 := cell_new0 (((w.alloc (.cells #[.slice (some ⟨1, 0, none⟩) 16 16] 70)).alloc (.cells #[.slice (some ad) n c] 24)).alloc (.cells #[.slice (some ⟨Tb, o, none⟩) 16 16] 74)) (.slice (some ⟨1, 0, none⟩) 16 16) 70
    have e5 := cell_new0 ((((w.alloc (.cells #[.slice (some ⟨1, 0, none⟩) 16 16] 70)).alloc (.cells #[.slice (some ad) n c] 24)).alloc (.cells #[.slice (some ⟨Tb, o, none⟩) 16 16] 74)).alloc (.cells #[.slice (some ⟨1, 0, none⟩) 16 16] 70)) (.int .u32 (T : Int)) 37
    simp only [World.size_alloc] at e2 g2 e3 e4 e5
    have g3 := (frozen_alloc_of e2 (.cells #[.slice (some ⟨Tb, o, none⟩) 16 16] 74)).trans g2
    have g4 := (frozen_alloc_of (cell_alloc_of e2 (.cells #[.slice (some ⟨Tb, o, none⟩) 16 16] 74)) (.cells #[.slice (some ⟨1, 0, none⟩) 16 16] 70)).trans g3
    have g5 := (frozen_alloc_of (cell_alloc_of (cell_alloc_of e2 (.cells #[.slice (some ⟨Tb, o, none⟩) 16 16] 74)) (.cells #[.slice (some ⟨1, 0, none⟩) 16 16] 70)) (.cells #[.int .u32 (T : Int)] 37)).trans g4
    refine ⟨⟨ht.keep HB0.out hw, cell_alloc_of e4 _, e5⟩, cell_alloc_of (cell_alloc_of (cell_alloc_of (cell_alloc_of e1 _) _) _) _, ⟨ad, rfl, cell_alloc_of (cell_alloc_of (cell_alloc_of e2 _) _) _, hb.keep HB0.out (Nat.le_refl _)⟩, g5, cell_alloc_of (cell_alloc_of e3 _) _, (BStep.refl hr).below' HB0.out, ?_⟩
    refine ⟨by omega, by omega, by omega, by omega, by omega, by omega, by omega, by omega, by omega, hTs, hw, ?_, hne, hTb⟩
    exact hab0
  case assign =>
    intro l k W K hK
    gi_wp2
    exact hK
  case body =>
    rintro l k W hk hann hRF
    have HR : Hid (RF w W w.heap.size (w.heap.size + 1) (w.heap.size + 1 + 1) (w.heap.size + 1 + 1 + 1) (w.heap.size + 1 + 1 + 1 + 1) Tb o n c T p k ad.block dv nv cur) := hRF
    obtain ⟨adk, hab, c2, hbs⟩ := hRF.data
    obtain ⟨t0, t1, t2⟩ := hRF.box.1 k hk
    have c1 := hRF.specs
    have c3 := hRF.vals
    have f2 := hRF.dfro
    clear hRF
    have hk' : (k : Int) < 16 := by omega
    have hmo : Ybaf.prog.follows .mixedOrders = true := by kernel_rfl
    have hle : ssum T (k + 1) ≤ ssum T 16 := ssum_mono T (by omega)
    have e1 : ssum T (k + 1) = ssum T k + fsz k := by rw [ssum, if_pos hann]
    have hf8 := fsz_le k
    have hz1 : fsz k ≤ n - ssum T k := by omega
    have hz2 : n - ssum T k ≤ c - ssum T k := by omega
    have q1 := cutH adk (n - ssum T k) (c - ssum T k) (fsz k) (fsz k) rfl (by omega)
    have q2 := cutL adk (n - ssum T k) (c - ssum T k) (fsz k) (fsz k) rfl hz1 hz2
    obtain ⟨v0, hv0⟩ : ∃ v0, (frow cur o T dv p k)[o + k]? = some v0 := ⟨_, Array.getElem?_eq_getElem (by rw [frow_size]; omega)⟩
    have hx1 : ¬ (w.heap.size + 1 = Tb) := by omega
    have hx2 : ¬ (Tb = w.heap.size + 1) := by omega
    have HBS : Hid (BsAt W adk (n - ssum T k) dv (p + ssum T k)) := hbs
    clear hbs
    have hf25 : Fence.wide.fn 25 := trivial
    have hd1 : 1 ≤ m - 1 - 1 := by omega
    gi_wp2
    gi_region_with_o (gi_at_call 25; refine (CallsIn.inRound l (callsIn_wide.2 (readUint_calls adk (fsz k) (c - ssum T k) (p + ssum T k) dv _ hf8 hd (by exact fun i hi => HBS.out i (by omega))))).mono ?_; rintro e' w2 ⟨rfl, hb⟩; have HB2 : Hid (Below W.heap.size W w2) := ((Below.refl _ W).drew).trans hb; have g2 := (HB2.out.cell (lt_of_cell c2)).trans c2; have g3 := (HB2.out.cell (lt_of_cell c3)).trans c3; have gf := (HB2.out.frozen (lt_of_cell c2)).trans f2; have gr := (HR.out.step.below' HB2.out).cell hv0; have gz := (HR.out.step.below' HB2.out).frozen (o + k); clear hb)
    all_goals gi_wp2
    all_goals exact ⟨((keeps_below HB2.out).trans (KeepsOthers.setCell _ _ _)).trans (KeepsOthers.setCell _ _ _), HR.out.round HB2.out hann hk hs hnc hab HBS.out⟩
  case done =>
    rintro D W hD hRF hK
    have HR : Hid (RF w W w.heap.size (w.heap.size + 1) (w.heap.size + 1 + 1) (w.heap.size + 1 + 1 + 1) (w.heap.size + 1 + 1 + 1 + 1) Tb o n c T p 16 ad.block dv nv cur) := hRF
    obtain ⟨adk, hab, c2, hbs⟩ := hRF.data
    have HBS : Hid (BsAt W adk (n - ssum T 16) dv (p + ssum T 16)) := hbs
    clear hRF hbs
    gi_wp2
    refine ⟨by simp, .inl ⟨_, _, rfl, run_takeDeferred hK, ?_⟩⟩
    exact ⟨_, results_tmp rfl _ _ _, ⟨adk, hab, rfl, fun i hi => putObj_cell _ (HBS.out i hi) hK rfl⟩, HR.out.step.putObj (o := .deferred (some [])) _ (by simp at hD; omega) hTs⟩
end Go.Proofs.YbulkdycwFmt
