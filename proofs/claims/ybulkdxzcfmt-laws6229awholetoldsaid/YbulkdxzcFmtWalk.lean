/- The law's walk. -/
import Derived.Test.YbulkdxzcFmtRow
import Derived.OwnWalk
import Derived.Laws.MakeOwn
import Derived.Lib.SlBuf
import Derived.Laws.CopyOwn
namespace Go.Proofs.YbulkdxzcFmt
open Go.RowKit Go.Maps
open Go.Extern.Stop Go.Stop Go.Extern
set_option linter.unusedSimpArgs false
set_option linter.unusedVariables false

/-- The given tokens, as they lie. -/
def RawAt (w : World) (b o : Nat) (x : Tk) : Prop :=
  w.cell? ⟨b, o, none⟩ = some (.int .u8 x.k) ∧ w.cell? ⟨b, o + 1, none⟩ = some (.string x.t) ∧ w.cell? ⟨b, o + 2, none⟩ = some (.string x.f) ∧ w.cell? ⟨b, o + 3, none⟩ = some (.int .i64 x.l) ∧ w.cell? ⟨b, o + 4, none⟩ = some (.int .i64 x.c) ∧ 0 ≤ x.k ∧ x.k ≤ 255
theorem RawAt.keep {w w' : World} {B b o : Nat} {x : Tk} (h : RawAt w b o x) (hb : Below B w w') (hB : b < B) : RawAt w' b o x :=
  ⟨(hb.cell (p := ⟨b, _, none⟩) hB).trans h.1, (hb.cell (p := ⟨b, _, none⟩) hB).trans h.2.1, (hb.cell (p := ⟨b, _, none⟩) hB).trans h.2.2.1, (hb.cell (p := ⟨b, _, none⟩) hB).trans h.2.2.2.1, (hb.cell (p := ⟨b, _, none⟩) hB).trans h.2.2.2.2.1, h.2.2.2.2.2⟩
def Raw (w : World) (a : Option Addr) (n : Nat) (g : Nat → Tk) : Prop :=
  0 < n → ∃ b off, a = some ⟨b, off, none⟩ ∧ b < w.heap.size ∧ ∀ i, i < n → RawAt w b (off + i * 5) (g i)
def conv (x : Tk) : Tk := { x with k := kindOf x.k }
def eof : Tk := ⟨0, ⟨#[]⟩, ⟨#[]⟩, 0, 0⟩

theorem own_grow {B n : Nat} {v : Value} {w0 w w' : World} {xs : List Value} (hb : Below B w0 w) (hB : B ≤ w.heap.size) (hv : w.ownsRow B 31 5 v n xs) (hg : w.grownBy w' v.ownBlock) : Below B w0 w' :=
  hb.grown hg hB (fun k hk => (hv.lt k hk).1)
theorem own_keep {B n : Nat} {v : Value} {w w' : World} {xs : List Value} {C : Nat} (hv : w.ownsRow B 31 5 v n xs) (hb : Below C w w') (hC : w.heap.size ≤ C) : w'.ownsRow B 31 5 v n xs :=
  hv.kept (grown_of_below hb hC) (by cases h : v.ownBlock <;> simp)

theorem own_form {w : World} {B n : Nat} {v : Value} {xs : List Value} (h : w.ownsRow B 31 5 v n xs) : ∃ p cap, v = .slice p n cap := by
  rcases h.2 with ⟨rfl, rfl⟩ | ⟨T, cap, cur, rfl, _⟩
  · exact ⟨none, 0, rfl⟩
  · exact ⟨_, cap, rfl⟩
theorem fin_own {w : World} {B n : Nat} {v : Value} {g : Nat → Tk} (h : w.ownsRow B 31 5 v n (flat g n)) (hn : n ≤ 1048576) (h0 : 0 < n) :
    ∃ (N : Nat) (gg : Nat → Tk) (T cap : Nat), v = .slice (some ⟨T, 0, none⟩) N cap ∧ Hid (0 < N ∧ N ≤ 1048576) ∧ Hid (w.ownsRow B 31 5 (.slice (some ⟨T, 0, none⟩) N cap) N (flat gg N)) := by
  obtain ⟨T, cap, rfl, _, _⟩ := h.form h0
  exact ⟨n, g, T, cap, rfl, ⟨h0, hn⟩, h⟩
theorem fin_one {w : World} {B : Nat} {v : Value} (h : w.ownsRow B 31 5 v (0 + 1) ([] ++ eof.cells)) :
    ∃ (N : Nat) (gg : Nat → Tk) (T cap : Nat), v = .slice (some ⟨T, 0, none⟩) N cap ∧ Hid (0 < N ∧ N ≤ 1048576) ∧ Hid (w.ownsRow B 31 5 (.slice (some ⟨T, 0, none⟩) N cap) N (flat gg N)) :=
  fin_own (n := 1) (g := fun _ => eof) h (by omega) (by omega)
theorem row_step {w wr w2 : World} {v : Value} {j : Nat} {xs : List Value} {o o' : Obj} (hL : Below w.heap.size w wr) (hO : wr.ownsRow w.heap.size 31 5 v j xs) (hb : Below (wr.alloc o).heap.size (wr.alloc o) w2) :
    Below w.heap.size w (w2.alloc o') ∧ (w2.alloc o').ownsRow w.heap.size 31 5 v j xs := by
  have h1 := hL.alloc hL.size o
  have h2 := h1.trans (hb.mono h1.size)
  exact ⟨h2.alloc h2.size o', ((own_keep (hO.alloc o) hb (Nat.le_refl _))).alloc o'⟩

theorem make_tok (N : Nat) (hN : N ≤ 1048576) : ∃ Zc : Array Value, Zc.size = N * 5 ∧ ∀ W : World, (Instr.makeSlice 24 (.int .i64 (N : Int)) (.int .i64 (N : Int))).run Ybaf.prog W = .ok (.slice (some ⟨W.heap.size, 0, none⟩) N N) (W.alloc (.cells Zc 31)) := by
  obtain ⟨i31, hi31, hz0, hz1, hz2⟩ := info_parts info31
  refine ⟨madeCells (Value.agg zeroc).cells (N * 5), size_madeCells _ _, fun W => ?_⟩
  have h := run_make (P := Ybaf.prog) W 24 31 i31 _ Ybaf.underlying24 hi31 hz0 .i64 .i64 N N (by omega) (by omega) (by rw [hz2]; omega) (by omega)
  rw [hz1] at h
  simpa using h

theorem cell_alloc_of {w : World} {a : Addr} {u : Value} {o : Obj} (h : w.cell? a = some u) : (w.alloc o).cell? a = some u := by
  rw [World.cell?_alloc_lt _ _ _ (lt_of_cell h)]; exact h

/-- Behind the copy. -/
structure Copied (Tn N : Nat) (g : Nat → Tk) (w w' : World) : Prop where
  row : w'.heap[Tn]? = some (.cells (flat g N).toArray 31 (0, 0))
  other : ∀ j, j ≠ Tn → w'.heap[j]? = w.heap[j]?
  below : ∀ B, B ≤ Tn → Below B w w'
  size : w'.heap.size = w.heap.size

theorem copied {w : World} (Tn T0 N capT : Nat)
    (g : Nat → Tk) (cur : Array Value) (hcur : w.heap[Tn]? = some (.cells cur 31 (0, 0))) (hsz : cur.size = N * 5) (hsrc : ∀ x u, (flat g N)[x]? = some u → w.cell? ((⟨T0, 0, none⟩ : Addr).add x) = some u) :
    ∃ w', (Builtin.copy_ #[24, 24] 3 #[.slice (some ⟨Tn, 0, none⟩) N N, .slice (some ⟨T0, 0, none⟩) N capT]).run Ybaf.prog w = .ok (.int .i64 N) w' ∧ Hid (Copied Tn N g w w') := by
  have hl := length_flat g N
  have hr := run_copy_wide (P := Ybaf.prog) w 24 24 3 31 Tn 0 N N ⟨T0, 0, none⟩ N capT 5 cur 31 (flat g N) Ybaf.underlying24 (by kernel_rfl) hcur (by rw [hl]; congr 1; exact (Nat.min_self N).symm) hsrc (by omega) (flat_one g N)
  have e : (cur.toList.take 0 ++ flat g N ++ cur.toList.drop (0 + (flat g N).length)).toArray = (flat g N).toArray := by
    rw [Nat.zero_add, hl, List.drop_of_length_le (by rw [Array.length_toList, hsz]; exact Nat.le_refl _)]; simp
  have e2 : Nat.min N N = N := Nat.min_self N
  rw [e, e2] at hr
  exact ⟨_, hr, ⟨setRow_heap w Tn _ _ 31 _ hcur, fun j hj => setRow_other w Tn j _ hj, fun B hB => below_setRow (Below.refl _ _) hB _, by simp [World.setRow]⟩⟩

/-- Behind the laying of both rows: ts in block T0, work in block Tn. -/
structure Made (w wx w5 : World) (T0 N : Nat) (g : Nat → Tk) : Prop where
  below : Below w.heap.size w w5
  ts : ∀ x, x < N → TokAt w5 T0 x (g x).k (g x).t (g x).f (g x).l (g x).c
  work : ∀ x, x < N → TokAt w5 wx.heap.size x (g x).k (g x).t (g x).f (g x).l (g x).c
  size : wx.heap.size < w5.heap.size
  t0 : T0 < w5.heap.size
  old : w.heap.size ≤ wx.heap.size

theorem made_of {w wx w5 : World} {T0 N capT : Nat} {g : Nat → Tk} {o : Obj} (hL : Below w.heap.size w wx) (hO : wx.ownsRow w.heap.size 31 5 (.slice (some ⟨T0, 0, none⟩) N capT) N (flat g N)) (hc : Copied wx.heap.size N g (wx.alloc o) w5) : Made w wx w5 T0 N g := by
  have hlt : T0 < wx.heap.size := (hO.lt T0 rfl).2
  have hcell : ∀ x, x < N * 5 → w5.cell? ⟨T0, x, none⟩ = (flat g N)[x]? := fun x hx => by
    rw [World.cell?_of_block (w := wx.alloc o) (hc.other T0 (by omega)), World.cell?_alloc_lt _ _ _ hlt]
    exact hO.cellAt x hx
  refine ⟨(hL.alloc hL.size o).trans (hc.below _ hL.size), fun x hx => tokAt_of hcell hx, fun x hx => tokAt_of (fun y hy => ?_) hx, by rw [hc.size]; simp, by rw [hc.size]; simp; omega, hL.size⟩
  rw [cell_of_row w5 _ y _ 31 (0, 0) hc.row]
  simp

/-- What is known of the world behind ident: the two rows, the parser, the wanted token. -/
structure End (w wz : World) (T0 Tn N Pb i : Nat) (g : Nat → Tk) (nm : ByteArray) (dp bl : Int) (b1 b2 b3 : Bool) (x : Tk) : Prop where
  below : Below w.heap.size w wz
  ts : ∀ y, y < N → TokAt wz T0 y (g y).k (g y).t (g y).f (g y).l (g y).c
  work : ∀ y, y < N → TokAt wz Tn y (g y).k (g y).t (g y).f (g y).l (g y).c
  par : wz.heap[Pb]? = some (.cells (parc nm Tn N N i dp bl b1 b2 b3) 35 (0, 0))
  tok : wz.heap[Pb + 1]? = some (.cells (tokc x.k x.t x.f x.l x.c) 31 (0, 0))

theorem TokAt.drewN {w : World} {T i : Nat} {k : Int} {t f : ByteArray} {l c : Int} (h : TokAt w T i k t f l c) (q : Nat) : TokAt (w.drewN q) T i k t f l c := h
theorem End.drewN {w wz : World} {T0 Tn N Pb i : Nat} {g : Nat → Tk} {nm : ByteArray} {dp bl : Int} {b1 b2 b3 : Bool} {x : Tk} (h : End w wz T0 Tn N Pb i g nm dp bl b1 b2 b3 x) (q : Nat) : End w (wz.drewN q) T0 Tn N Pb i g nm dp bl b1 b2 b3 x :=
  ⟨below_drewN h.below q, fun y hy => (h.ts y hy).drewN q, fun y hy => (h.work y hy).drewN q, h.par, h.tok⟩

theorem parCells {w : World} {Pb T n cap i : Nat} {nm : ByteArray} {dp bl : Int} {b1 b2 b3 : Bool} (hP : w.heap[Pb]? = some (.cells (parc nm T n cap i dp bl b1 b2 b3) 35 (0, 0))) :
    w.cell? ⟨Pb, 0, none⟩ = some (.string nm) ∧ w.cell? ⟨Pb, 1, none⟩ = some (.slice (some ⟨T, 0, none⟩) n cap) ∧ w.cell? ⟨Pb, 2, none⟩ = some (.int .i64 i) ∧ w.cell? ⟨Pb, 3, none⟩ = some (.int .i64 dp) ∧ w.cell? ⟨Pb, 4, none⟩ = some (.int .i64 bl) ∧ w.cell? ⟨Pb, 5, none⟩ = some (.bool b1) ∧ w.cell? ⟨Pb, 6, none⟩ = some (.bool b2) ∧ w.cell? ⟨Pb, 7, none⟩ = some (.bool b3) :=
  ⟨cell_of hP rfl, cell_of hP rfl, cell_of hP rfl, cell_of hP rfl, cell_of hP rfl, cell_of hP rfl, cell_of hP rfl, cell_of hP rfl⟩
theorem four_cells {w : World} {g : Nat} {t : TypeId} {a0 a1 a2 a3 : Value} (hg : w.heap[g]? = some (.cells #[a0, a1, a2, a3] t (0, 0))) :
    w.cell? ⟨g, 0, none⟩ = some a0 ∧ w.cell? ⟨g, 1, none⟩ = some a1 ∧ w.cell? ⟨g, 2, none⟩ = some a2 ∧ w.cell? ⟨g, 3, none⟩ = some a3 :=
  ⟨cell_of hg rfl, cell_of hg rfl, cell_of hg rfl, cell_of hg rfl⟩

/-- Ahead of ident: the parser and the wanted token are laid. -/
theorem made_end {w wx w5 : World} {T0 N i : Nat} {g : Nat → Tk} {nm : ByteArray} {dp bl : Int} {b1 b2 b3 : Bool} (h : Made w wx w5 T0 N g) :
    End w ((w5.alloc (.cells (parc nm wx.heap.size N N i dp bl b1 b2 b3) 35)).alloc (.cells (tokc (g i).k (g i).t (g i).f (g i).l (g i).c) 31)) T0 wx.heap.size N w5.heap.size i g nm dp bl b1 b2 b3 (g i) := by
  have hb : Below w5.heap.size w5 ((w5.alloc (.cells (parc nm wx.heap.size N N i dp bl b1 b2 b3) 35)).alloc (.cells (tokc (g i).k (g i).t (g i).f (g i).l (g i).c) 31)) := ((Below.refl _ _).alloc (Nat.le_refl _) _).alloc (by simp) _
  exact ⟨h.below.trans (hb.mono h.below.size), fun y hy => (h.ts y hy).keep hb h.t0, fun y hy => (h.work y hy).keep hb h.size, (Below.heap_alloc _ _ _ (by simp)).trans (heap_alloc_new _ _), heap_alloc2_new _ _ _⟩

/-- Behind ident, where only the parser's block has turned. -/
theorem end_step {w w6 w7 : World} {T0 Tn N Pb i i' : Nat} {g : Nat → Tk} {nm : ByteArray} {dp bl : Int} {b1 b2 b3 : Bool} {x : Tk} (h : End w w6 T0 Tn N Pb i g nm dp bl b1 b2 b3 x) (hT0 : T0 ≠ Pb) (hTn : Tn ≠ Pb) (hPw : w.heap.size ≤ Pb) (hN : 0 < N)
    (hS : Step Pb (parc nm Tn N N i' dp bl b1 b2 b3) w6 w7) : End w w7 T0 Tn N Pb i' g nm dp bl b1 b2 b3 x := by
  have hc : ∀ b o v, b ≠ Pb → w6.cell? ⟨b, o, none⟩ = some v → w7.cell? ⟨b, o, none⟩ = some v := fun b o v hne hv => by
    rw [World.cell?_of_block (w := w6) (hS.other b (lt_of_cell hv) hne)]; exact hv
  have hk : ∀ (T y : Nat) {k : Int} {t f : ByteArray} {l c : Int}, T ≠ Pb → TokAt w6 T y k t f l c → TokAt w7 T y k t f l c := fun T y k t f l c hne q => ⟨hc _ _ _ hne q.1, hc _ _ _ hne q.2.1, hc _ _ _ hne q.2.2.1, hc _ _ _ hne q.2.2.2.1, hc _ _ _ hne q.2.2.2.2⟩
  exact ⟨h.below.trans (hS.below _ hPw), fun y hy => hk T0 y hT0 (h.ts y hy), fun y hy => hk Tn y hTn (h.work y hy), hS.par, (hS.other _ (Array.getElem?_eq_some_iff.1 h.tok).1 (by omega)).trans h.tok⟩
/-- Behind ident, where nothing old has turned. -/
theorem end_below {w w6 w7 : World} {T0 Tn N Pb i : Nat} {g : Nat → Tk} {nm : ByteArray} {dp bl : Int} {b1 b2 b3 : Bool} {x : Tk} (h : End w w6 T0 Tn N Pb i g nm dp bl b1 b2 b3 x)
    (hb : Below w6.heap.size w6 w7) : End w w7 T0 Tn N Pb i g nm dp bl b1 b2 b3 x := by
  have hk : ∀ (T y : Nat) {k : Int} {t f : ByteArray} {l c : Int}, TokAt w6 T y k t f l c → TokAt w7 T y k t f l c := fun T y k t f l c q => q.keep hb (lt_of_cell q.1)
  exact ⟨h.below.trans (hb.mono h.below.size), fun y hy => hk T0 y (h.ts y hy), fun y hy => hk Tn y (h.work y hy), (hb.block _ (Array.getElem?_eq_some_iff.1 h.par).1).trans h.par, (hb.block _ (Array.getElem?_eq_some_iff.1 h.tok).1).trans h.tok⟩

theorem asrt43 (x : Value) (w : World) : (Instr.typeAssert (.iface 43 x) 38 43 true).run Ybaf.prog w = .ok (.tuple #[x, .bool true]) w := by kernel_rfl
theorem ident_ok {H : Type} (F : Interp) (w w6 : World) (T0 Tn N Pb i : Nat) (g : Nat → Tk) (nm : ByteArray) (dp bl : Int) (b1 b2 b3 : Bool) (bm nm' : Nat) (D : DataW H) (bo oo no co : Nat) (ov : Nat → ByteArray) (kv : Nat → Int) (hi : i < N) (hn : N ≤ 1048576)
    (hE : End w w6 T0 Tn N Pb i g nm dp bl b1 b2 b3 (g i)) (hT0 : T0 ≠ Pb) (hTn : Tn ≠ Pb) (hPw : w.heap.size ≤ Pb) (hF : F.answers w.tape) (hV : Vars H w bm nm' D bo oo no co ov kv) (h3 : (g i).k = 3) :
    Calls Ybaf.prog 5 #[.pointer (some ⟨Pb, 0, none⟩)] w6 fun e w' => ∃ I, e = .returned (.tuple #[.pointer (some ⟨I, 0, none⟩), .nilIface]) ∧ Hid (w'.heap[I]? = some (.cells #[.string (g i).f, .int .i64 (g i).l, .int .i64 (g i).c, .string (g i).t] 42 (0, 0))) ∧ Hid (End w w' T0 Tn N Pb (nextI i N) g nm dp bl b1 b2 b3 (g i)) := by
  refine (ident F Pb Tn N N i nm dp bl b1 b2 b3 (g i).k (g i).t (g i).f (g i).l (g i).c bm nm' D bo oo no co ov kv w6 hi (by omega) hE.par (hE.work i hi) (by rw [hE.below.tape]; exact hF) (hV.keep hE.below (Nat.le_refl _))).mono ?_
  rintro e w' ⟨p, v, rfl, h | h⟩
  · obtain ⟨_, rfl, ⟨I, rfl, _, hI⟩, hS⟩ := h
    exact ⟨I, rfl, hI, end_step hE hT0 hTn hPw (by omega) hS⟩
  · exact absurd h3 h.1
theorem ident_no {H : Type} (F : Interp) (w w6 : World) (T0 Tn N Pb i : Nat) (g : Nat → Tk) (nm : ByteArray) (dp bl : Int) (b1 b2 b3 : Bool) (bm nm' : Nat) (D : DataW H) (bo oo no co : Nat) (ov : Nat → ByteArray) (kv : Nat → Int) (hi : i < N) (hn : N ≤ 1048576)
    (hE : End w w6 T0 Tn N Pb i g nm dp bl b1 b2 b3 (g i)) (hF : F.answers w.tape) (hV : Vars H w bm nm' D bo oo no co ov kv) (h3 : ¬ (g i).k = 3) :
    Calls Ybaf.prog 5 #[.pointer (some ⟨Pb, 0, none⟩)] w6 fun e w' => ∃ E msg, e = .returned (.tuple #[.pointer none, .iface 43 (.pointer (some ⟨E, 0, none⟩))]) ∧ Hid (w'.heap[E]? = some (.cells #[.string (g i).f, .int .i64 (g i).l, .int .i64 (g i).c, .string msg] 46 (0, 0))) ∧ Hid ((g i).k = 1 → msg = (g i).t) ∧ Hid (End w w' T0 Tn N Pb i g nm dp bl b1 b2 b3 (g i)) := by
  refine (ident F Pb Tn N N i nm dp bl b1 b2 b3 (g i).k (g i).t (g i).f (g i).l (g i).c bm nm' D bo oo no co ov kv w6 hi (by omega) hE.par (hE.work i hi) (by rw [hE.below.tape]; exact hF) (hV.keep hE.below (Nat.le_refl _))).mono ?_
  rintro e w' ⟨p, v, rfl, h | h⟩
  · exact absurd h.1 h3
  · obtain ⟨_, rfl, E, msg, rfl, _, hc, hm, hb⟩ := h
    exact ⟨E, msg, rfl, hc, hm, end_below hE hb⟩

set_option maxRecDepth 100000 in
set_option maxHeartbeats 2000000 in
theorem walk {H : Type} (F : Interp) (a : Option Addr) (n cap : Nat) (at_ : Int) (nm : ByteArray) (dp bl : Int) (b1 b2 b3 : Bool) (g : Nat → Tk) (bm nm' : Nat) (D : DataW H) (bo oo no co : Nat) (ov : Nat → ByteArray) (kv : Nat → Int) (w : World) (hn : n ≤ maxLen) (hat : 0 ≤ at_ ∧ at_ ≤ 18446744073709551615)
    (hR : Raw w a n g) (hF : F.answers w.tape) (hV : Vars H w bm nm' D bo oo no co ov kv) :
    Calls Ybaf.prog 3 #[.slice a n cap, .int .u64 at_, .string nm, .int .i64 dp, .int .i64 bl, .bool b1, .bool b2, .bool b3] w fun e w' => e = .returned (.bool true) ∧ Below w.heap.size w w' := by
  have HV : Hid (Vars H w bm nm' D bo oo no co ov kv) := hV
  have HF : Hid (F.answers w.tape) := hF
  have HR : Hid (Raw w a n g) := hR
  clear hV hF hR
  unfold maxLen at hn
  go_enter Ybaf.func3, Ybaf.ntmps3
  by_cases hbig : (n : Int) > 1048576
  · go_wp2
    go_ret
    exact ⟨rfl, Below.refl _ _⟩
  have hnn : n ≤ 1048576 := by omega
  obtain ⟨i31, hi31, hz0, hz1, hz2⟩ := info_parts info31
  go_wp2_with fail
  go_loopw [17, 36] (fun v iv wr => ∃ j : Nat, j ≤ n ∧ iv = .int .i64 j ∧ wr.ownsRow w.heap.size 31 5 v j (flat (fun i => conv (g i)) j) ∧ Below w.heap.size w wr) (fun _ iv _ => n - (intOf iv).toNat)
  case atStart => exact ⟨0, by omega, rfl, World.ownsRow_nil _ _ _ _, Below.refl _ _⟩
  case round =>
    obtain ⟨j, hj, rfl, hown, hbel⟩ := hrel
    have HO : Hid (wr.ownsRow w.heap.size 31 5 _ j (flat (fun i => conv (g i)) j)) := hown
    have HL : Hid (Below w.heap.size w wr) := hbel
    clear hown hbel
    by_cases hlt : j < n
    · have hlt' : (j : Int) < (n : Int) := by omega
      obtain ⟨b, off, rfl, hbs, hcs⟩ := HR.out (by omega)
      obtain ⟨c0, c1, c2, c3, c4, ck⟩ := (hcs j hlt).keep HL.out hbs
      clear hcs
      go_wp2_with (first
        | (go_at_call 4; refine (atok (g j).k (g j).t (g j).f (g j).l (g j).c _ ck).mono ?_; rintro e' w2 ⟨rfl, hb⟩; obtain ⟨hA, hB⟩ := row_step HL.out HO.out hb; have HA : Hid (Below w.heap.size w (w2.alloc (.cells (tokc (kindOf (g j).k) (g j).t (g j).f (g j).l (g j).c) 31))) := hA; have HB : Hid ((w2.alloc (.cells (tokc (kindOf (g j).k) (g j).t (g j).f (g j).l (g j).c) 31)).ownsRow w.heap.size 31 5 u17 j (flat (fun i => conv (g i)) j)) := hB; have HN : Hid (∀ x u, (conv (g j)).cells[x]? = some u → (w2.alloc (.cells (tokc (kindOf (g j).k) (g j).t (g j).f (g j).l (g j).c) 31)).cell? ((⟨w2.heap.size, 0, none⟩ : Addr).add x) = some u) := World.news_of_block (cs := tokc (kindOf (g j).k) (g j).t (g j).f (g j).l (g j).c) (heap_alloc_new _ _); clear hA hB hb)
        | (at_builtin; refine wpList_append_own_wide _ rfl (.tmp 40) (.tmp 43) 24 rfl w.heap.size 31 i31 (.agg zeroc) 5 56 Ybaf.underlying24 hi31 hz0 hz1 hz2 rfl (by decide) u17 j (flat (fun i => conv (g i)) j) rfl HB.out ⟨w2.heap.size, 0, none⟩ 1 1 (conv (g j)).cells rfl rfl HN.out (cells_one _) (by unfold maxLen; omega) (by omega) HA.out.size ?_; intro v' w1 hown' hgrow _; have HC : Hid (w1.ownsRow w.heap.size 31 5 v' (j + 1) (flat (fun i => conv (g i)) (j + 1)) ∧ Below w.heap.size w w1) := ⟨hown', own_grow HA.out HA.out.size HB.out hgrow⟩; clear hown' hgrow)
        | go_in)
      go_roundw
      case rel => exact ⟨j + 1, by omega, by go_num, HC.out.1, HC.out.2⟩
      case measure => simp [intOf]; omega
    · have hlt' : ¬ (j : Int) < (n : Int) := by omega
      obtain rfl : j = n := by omega
      clear hlt hj
      by_cases hj0 : j = 0
      rotate_left
      · obtain ⟨N, gg, T0, capT, hv, HN0, HOx⟩ := fin_own HO.out hnn (by omega)
        subst hv
        have HLx : Hid (Below w.heap.size w wr) := HL.out
        obtain ⟨wx, rfl⟩ : ∃ wx : World, wx = wr := ⟨_, rfl⟩
        have hN0' : ((N : Int) == 0) = false := by have := HN0.out.1; simp; omega
        go_upto_region 11 with fail
        obtain ⟨hN, hN1⟩ := HN0.out
        obtain ⟨i, hidx, hiN⟩ : ∃ i : Nat, at_ % (N : Int) = i ∧ i < N := ⟨(at_ % (N : Int)).toNat, by have := Int.emod_nonneg at_ (b := (N : Int)) (by omega); omega, by have := Int.emod_nonneg at_ (b := (N : Int)) (by omega); have := Int.emod_lt_of_pos at_ (b := (N : Int)) (by omega); omega⟩
        obtain ⟨Zc, hZc, hmk⟩ := make_tok N hN1
        obtain ⟨w5, hcp, HC⟩ := copied wx.heap.size T0 N capT gg Zc (heap_alloc_new wx _) hZc (fun x u hx => cell_alloc_of (HOx.out.cells rfl x u hx))
        have HC5 : Hid (Made w wx w5 T0 N gg) := made_of HLx.out HOx.out HC.out
        clear HC
        go_upto_region 15 with fail
        clear hcp
        have HE6 : Hid (End w ((w5.alloc (.cells (parc nm wx.heap.size N N i dp bl b1 b2 b3) 35)).alloc (.cells (tokc (gg i).k (gg i).t (gg i).f (gg i).l (gg i).c) 31)) T0 wx.heap.size N w5.heap.size i gg nm dp bl b1 b2 b3 (gg i)) := made_end HC5.out
        have hT0 : T0 ≠ w5.heap.size := by have := HC5.out.t0; omega
        have hTn : wx.heap.size ≠ w5.heap.size := by have := HC5.out.size; omega
        have hPw : w.heap.size ≤ w5.heap.size := HC5.out.below.size
        obtain ⟨c0, c1, c2, c3, c4⟩ : (∀ o, (w5.alloc o).cell? ⟨T0, i * 5, none⟩ = some (.int .i64 (gg i).k)) ∧ (∀ o, (w5.alloc o).cell? ⟨T0, i * 5 + 1, none⟩ = some (.string (gg i).t)) ∧ (∀ o, (w5.alloc o).cell? ⟨T0, i * 5 + 2, none⟩ = some (.string (gg i).f)) ∧ (∀ o, (w5.alloc o).cell? ⟨T0, i * 5 + 3, none⟩ = some (.int .i64 (gg i).l)) ∧ (∀ o, (w5.alloc o).cell? ⟨T0, i * 5 + 4, none⟩ = some (.int .i64 (gg i).c)) := by
          obtain ⟨q0, q1, q2, q3, q4⟩ := HC5.out.ts i hiN
          exact ⟨fun o => cell_alloc_of q0, fun o => cell_alloc_of q1, fun o => cell_alloc_of q2, fun o => cell_alloc_of q3, fun o => cell_alloc_of q4⟩
        have hiN' : (i : Int) < (N : Int) := by omega
        by_cases hk3 : (gg i).k = 3
        · have HK : Hid ((gg i).k = 3) := hk3
          clear hk3
          go_upto_region 18 with (go_at_call 5; refine (ident_ok F w _ T0 wx.heap.size N w5.heap.size i gg nm dp bl b1 b2 b3 bm nm' D bo oo no co ov kv hiN hN1 HE6.out hT0 hTn hPw HF.out HV.out HK.out).mono ?_; rintro e' w7 ⟨I, rfl, HI, HE⟩)
          clear c0 c1 c2 c3 c4 HE6
          obtain ⟨d0, d1, d2, d3, d4, d5, d6, d7⟩ := parCells HE.out.par
          go_wp2_with fail
          clear d0 d1 d2 d3 d4 d5 d6 d7
          go_loopw [27] (fun iv wr => ∃ j : Nat, j ≤ N ∧ iv = .int .i64 j ∧ Hid (wr.heap[I]? = some (.cells #[.string (gg i).f, .int .i64 (gg i).l, .int .i64 (gg i).c, .string (gg i).t] 42 (0, 0))) ∧ Hid (End w wr T0 wx.heap.size N w5.heap.size (nextI i N) gg nm dp bl b1 b2 b3 (gg i))) (fun iv _ => N - (intOf iv).toNat)
          case atStart => exact ⟨0, by omega, rfl, HI, HE⟩
          case round =>
            clear HI HE
            obtain ⟨j, hj, rfl, HI, HE⟩ := hrel
            by_cases hlt : j < N
            · have hltz : (j : Int) < (N : Int) := by omega
              obtain ⟨d0, d1, d2, d3, d4, d5, d6, d7⟩ := parCells HE.out.par
              obtain ⟨e0, e1, e2, e3, e4⟩ := HE.out.ts j hlt
              obtain ⟨f0, f1, f2, f3, f4⟩ := HE.out.work j hlt
              go_upto_region 23 with fail
              go_quiet (fail)
              go_wp2
              go_roundw
              case rel => exact ⟨j + 1, by omega, by go_num, HI, HE.out.drewN _⟩
              case measure => simp [intOf]; omega
            · have hltz : ¬ (j : Int) < (N : Int) := by omega
              go_upto_region 25 with fail
              obtain ⟨d0, d1, d2, d3, d4, d5, d6, d7⟩ := parCells HE.out.par
              obtain ⟨⟨e0, e1, e2, e3, e4⟩, _⟩ := five_cells HE.out.tok
              obtain ⟨f0, f1, f2, f3⟩ := four_cells HI.out
              have hk3 := HK.out
              by_cases hi1 : i + 1 < N
              · have hi1z : (i : Int) < (N : Int) - 1 := by omega
                have d2' : wr.cell? ⟨w5.heap.size, 2, none⟩ = some (.int .i64 ((i : Int) + 1)) := by rw [d2, nextI, if_pos hi1]; rfl
                clear d2
                go_upto_region 31 with fail
                go_quiet (fail)
                go_wp2
                go_ret
                exact ⟨rfl, below_drewN HE.out.below _⟩
              · have hi1z : ¬ (i : Int) < (N : Int) - 1 := by omega
                have d2' : wr.cell? ⟨w5.heap.size, 2, none⟩ = some (.int .i64 (i : Int)) := by rw [d2, nextI, if_neg hi1]
                clear d2
                go_upto_region 31 with fail
                go_quiet (fail)
                go_wp2
                go_ret
                exact ⟨rfl, below_drewN HE.out.below _⟩
        · have HK : Hid (¬ (gg i).k = 3) := hk3
          clear hk3
          go_upto_region 18 with (go_at_call 5; refine (ident_no F w _ T0 wx.heap.size N w5.heap.size i gg nm dp bl b1 b2 b3 bm nm' D bo oo no co ov kv hiN hN1 HE6.out HF.out HV.out HK.out).mono ?_; rintro e' w7 ⟨I, msg, rfl, HI, HM, HE⟩)
          clear c0 c1 c2 c3 c4 HE6
          obtain ⟨d0, d1, d2, d3, d4, d5, d6, d7⟩ := parCells HE.out.par
          go_wp2_with fail
          clear d0 d1 d2 d3 d4 d5 d6 d7
          go_loopw [27] (fun iv wr => ∃ j : Nat, j ≤ N ∧ iv = .int .i64 j ∧ Hid (wr.heap[I]? = some (.cells #[.string (gg i).f, .int .i64 (gg i).l, .int .i64 (gg i).c, .string msg] 46 (0, 0))) ∧ Hid (End w wr T0 wx.heap.size N w5.heap.size i gg nm dp bl b1 b2 b3 (gg i))) (fun iv _ => N - (intOf iv).toNat)
          case atStart => exact ⟨0, by omega, rfl, HI, HE⟩
          case round =>
            clear HI HE
            obtain ⟨j, hj, rfl, HI, HE⟩ := hrel
            by_cases hlt : j < N
            · have hltz : (j : Int) < (N : Int) := by omega
              obtain ⟨d0, d1, d2, d3, d4, d5, d6, d7⟩ := parCells HE.out.par
              obtain ⟨e0, e1, e2, e3, e4⟩ := HE.out.ts j hlt
              obtain ⟨f0, f1, f2, f3, f4⟩ := HE.out.work j hlt
              go_upto_region 23 with fail
              go_quiet (fail)
              go_wp2
              go_roundw
              case rel => exact ⟨j + 1, by omega, by go_num, HI, HE.out.drewN _⟩
              case measure => simp [intOf]; omega
            · have hltz : ¬ (j : Int) < (N : Int) := by omega
              go_upto_region 25 with fail
              obtain ⟨d0, d1, d2, d3, d4, d5, d6, d7⟩ := parCells HE.out.par
              obtain ⟨⟨e0, e1, e2, e3, e4⟩, _⟩ := five_cells HE.out.tok
              obtain ⟨f0, f1, f2, f3⟩ := four_cells HI.out
              have hk3 : ((gg i).k == 3) = false := by simpa using HK.out
              have q43 := asrt43
              go_upto_region 35 with fail
              go_quiet (fail)
              by_cases hk1 : (gg i).k = 1
              · have hk1' : ((gg i).k == 1) = true := by simpa using hk1
                obtain rfl := HM.out hk1
                go_upto_region 37 with fail
                go_quiet (fail)
                go_wp2
                go_ret
                exact ⟨rfl, below_drewN HE.out.below _⟩
              · have hk1' : ((gg i).k == 1) = false := by simpa using hk1
                go_upto_region 37 with fail
                go_quiet (fail)
                go_wp2
                go_ret
                exact ⟨rfl, below_drewN HE.out.below _⟩
      · subst hj0
        obtain ⟨p0, cap0, hv⟩ := own_form HO.out
        subst hv
        go_upto_region 11 with (first
          | (at_builtin; refine wpList_append_own_wide _ rfl (.tmp 49) (.tmp 51) 24 rfl w.heap.size 31 i31 (.agg zeroc) 5 56 Ybaf.underlying24 hi31 hz0 hz1 hz2 rfl (by decide) (.slice p0 0 cap0) 0 (flat (fun i => conv (g i)) 0) rfl ((HO.out.alloc _)) ⟨wr.heap.size, 0, none⟩ 1 1 eof.cells rfl rfl (World.news_of_block (cs := zeroc) (heap_alloc_new _ _)) (cells_one _) (by unfold maxLen; omega) (by omega) (HL.out.alloc HL.out.size _).size ?_; intro v' wx hown' hgrow _; obtain ⟨N, gg, T0, capT, hv, HN0, HOx⟩ := fin_one hown'; subst hv; have HLx : Hid (Below w.heap.size w wx) := own_grow (HL.out.alloc HL.out.size _) (HL.out.alloc HL.out.size _).size (HO.out.alloc _) hgrow; clear hown' hgrow)
          | go_in)
        obtain ⟨hN, hN1⟩ := HN0.out
        obtain ⟨i, hidx, hiN⟩ : ∃ i : Nat, at_ % (N : Int) = i ∧ i < N := ⟨(at_ % (N : Int)).toNat, by have := Int.emod_nonneg at_ (b := (N : Int)) (by omega); omega, by have := Int.emod_nonneg at_ (b := (N : Int)) (by omega); have := Int.emod_lt_of_pos at_ (b := (N : Int)) (by omega); omega⟩
        obtain ⟨Zc, hZc, hmk⟩ := make_tok N hN1
        obtain ⟨w5, hcp, HC⟩ := copied wx.heap.size T0 N capT gg Zc (heap_alloc_new wx _) hZc (fun x u hx => cell_alloc_of (HOx.out.cells rfl x u hx))
        have HC5 : Hid (Made w wx w5 T0 N gg) := made_of HLx.out HOx.out HC.out
        clear HC
        go_upto_region 15 with fail
        clear hcp
        have HE6 : Hid (End w ((w5.alloc (.cells (parc nm wx.heap.size N N i dp bl b1 b2 b3) 35)).alloc (.cells (tokc (gg i).k (gg i).t (gg i).f (gg i).l (gg i).c) 31)) T0 wx.heap.size N w5.heap.size i gg nm dp bl b1 b2 b3 (gg i)) := made_end HC5.out
        have hT0 : T0 ≠ w5.heap.size := by have := HC5.out.t0; omega
        have hTn : wx.heap.size ≠ w5.heap.size := by have := HC5.out.size; omega
        have hPw : w.heap.size ≤ w5.heap.size := HC5.out.below.size
        obtain ⟨c0, c1, c2, c3, c4⟩ : (∀ o, (w5.alloc o).cell? ⟨T0, i * 5, none⟩ = some (.int .i64 (gg i).k)) ∧ (∀ o, (w5.alloc o).cell? ⟨T0, i * 5 + 1, none⟩ = some (.string (gg i).t)) ∧ (∀ o, (w5.alloc o).cell? ⟨T0, i * 5 + 2, none⟩ = some (.string (gg i).f)) ∧ (∀ o, (w5.alloc o).cell? ⟨T0, i * 5 + 3, none⟩ = some (.int .i64 (gg i).l)) ∧ (∀ o, (w5.alloc o).cell? ⟨T0, i * 5 + 4, none⟩ = some (.int .i64 (gg i).c)) := by
          obtain ⟨q0, q1, q2, q3, q4⟩ := HC5.out.ts i hiN
          exact ⟨fun o => cell_alloc_of q0, fun o => cell_alloc_of q1, fun o => cell_alloc_of q2, fun o => cell_alloc_of q3, fun o => cell_alloc_of q4⟩
        have hiN' : (i : Int) < (N : Int) := by omega
        by_cases hk3 : (gg i).k = 3
        · have HK : Hid ((gg i).k = 3) := hk3
          clear hk3
          go_upto_region 18 with (go_at_call 5; refine (ident_ok F w _ T0 wx.heap.size N w5.heap.size i gg nm dp bl b1 b2 b3 bm nm' D bo oo no co ov kv hiN hN1 HE6.out hT0 hTn hPw HF.out HV.out HK.out).mono ?_; rintro e' w7 ⟨I, rfl, HI, HE⟩)
          clear c0 c1 c2 c3 c4 HE6
          obtain ⟨d0, d1, d2, d3, d4, d5, d6, d7⟩ := parCells HE.out.par
          go_wp2_with fail
          clear d0 d1 d2 d3 d4 d5 d6 d7
          go_loopw [27] (fun iv wr => ∃ j : Nat, j ≤ N ∧ iv = .int .i64 j ∧ Hid (wr.heap[I]? = some (.cells #[.string (gg i).f, .int .i64 (gg i).l, .int .i64 (gg i).c, .string (gg i).t] 42 (0, 0))) ∧ Hid (End w wr T0 wx.heap.size N w5.heap.size (nextI i N) gg nm dp bl b1 b2 b3 (gg i))) (fun iv _ => N - (intOf iv).toNat)
          case atStart => exact ⟨0, by omega, rfl, HI, HE⟩
          case round =>
            clear HI HE
            obtain ⟨j, hj, rfl, HI, HE⟩ := hrel
            by_cases hlt : j < N
            · have hltz : (j : Int) < (N : Int) := by omega
              obtain ⟨d0, d1, d2, d3, d4, d5, d6, d7⟩ := parCells HE.out.par
              obtain ⟨e0, e1, e2, e3, e4⟩ := HE.out.ts j hlt
              obtain ⟨f0, f1, f2, f3, f4⟩ := HE.out.work j hlt
              go_upto_region 23 with fail
              go_quiet (fail)
              go_wp2
              go_roundw
              case rel => exact ⟨j + 1, by omega, by go_num, HI, HE.out.drewN _⟩
              case measure => simp [intOf]; omega
            · have hltz : ¬ (j : Int) < (N : Int) := by omega
              go_upto_region 25 with fail
              obtain ⟨d0, d1, d2, d3, d4, d5, d6, d7⟩ := parCells HE.out.par
              obtain ⟨⟨e0, e1, e2, e3, e4⟩, _⟩ := five_cells HE.out.tok
              obtain ⟨f0, f1, f2, f3⟩ := four_cells HI.out
              have hk3 := HK.out
              by_cases hi1 : i + 1 < N
              · have hi1z : (i : Int) < (N : Int) - 1 := by omega
                have d2' : wr.cell? ⟨w5.heap.size, 2, none⟩ = some (.int .i64 ((i : Int) + 1)) := by rw [d2, nextI, if_pos hi1]; rfl
                clear d2
                go_upto_region 31 with fail
                go_quiet (fail)
                go_wp2
                go_ret
                exact ⟨rfl, below_drewN HE.out.below _⟩
              · have hi1z : ¬ (i : Int) < (N : Int) - 1 := by omega
                have d2' : wr.cell? ⟨w5.heap.size, 2, none⟩ = some (.int .i64 (i : Int)) := by rw [d2, nextI, if_neg hi1]
                clear d2
                go_upto_region 31 with fail
                go_quiet (fail)
                go_wp2
                go_ret
                exact ⟨rfl, below_drewN HE.out.below _⟩
        · have HK : Hid (¬ (gg i).k = 3) := hk3
          clear hk3
          go_upto_region 18 with (go_at_call 5; refine (ident_no F w _ T0 wx.heap.size N w5.heap.size i gg nm dp bl b1 b2 b3 bm nm' D bo oo no co ov kv hiN hN1 HE6.out HF.out HV.out HK.out).mono ?_; rintro e' w7 ⟨I, msg, rfl, HI, HM, HE⟩)
          clear c0 c1 c2 c3 c4 HE6
          obtain ⟨d0, d1, d2, d3, d4, d5, d6, d7⟩ := parCells HE.out.par
          go_wp2_with fail
          clear d0 d1 d2 d3 d4 d5 d6 d7
          go_loopw [27] (fun iv wr => ∃ j : Nat, j ≤ N ∧ iv = .int .i64 j ∧ Hid (wr.heap[I]? = some (.cells #[.string (gg i).f, .int .i64 (gg i).l, .int .i64 (gg i).c, .string msg] 46 (0, 0))) ∧ Hid (End w wr T0 wx.heap.size N w5.heap.size i gg nm dp bl b1 b2 b3 (gg i))) (fun iv _ => N - (intOf iv).toNat)
          case atStart => exact ⟨0, by omega, rfl, HI, HE⟩
          case round =>
            clear HI HE
            obtain ⟨j, hj, rfl, HI, HE⟩ := hrel
            by_cases hlt : j < N
            · have hltz : (j : Int) < (N : Int) := by omega
              obtain ⟨d0, d1, d2, d3, d4, d5, d6, d7⟩ := parCells HE.out.par
              obtain ⟨e0, e1, e2, e3, e4⟩ := HE.out.ts j hlt
              obtain ⟨f0, f1, f2, f3, f4⟩ := HE.out.work j hlt
              go_upto_region 23 with fail
              go_quiet (fail)
              go_wp2
              go_roundw
              case rel => exact ⟨j + 1, by omega, by go_num, HI, HE.out.drewN _⟩
              case measure => simp [intOf]; omega
            · have hltz : ¬ (j : Int) < (N : Int) := by omega
              go_upto_region 25 with fail
              obtain ⟨d0, d1, d2, d3, d4, d5, d6, d7⟩ := parCells HE.out.par
              obtain ⟨⟨e0, e1, e2, e3, e4⟩, _⟩ := five_cells HE.out.tok
              obtain ⟨f0, f1, f2, f3⟩ := four_cells HI.out
              have hk3 : ((gg i).k == 3) = false := by simpa using HK.out
              have q43 := asrt43
              go_upto_region 35 with fail
              go_quiet (fail)
              by_cases hk1 : (gg i).k = 1
              · have hk1' : ((gg i).k == 1) = true := by simpa using hk1
                obtain rfl := HM.out hk1
                go_upto_region 37 with fail
                go_quiet (fail)
                go_wp2
                go_ret
                exact ⟨rfl, below_drewN HE.out.below _⟩
              · have hk1' : ((gg i).k == 1) = false := by simpa using hk1
                go_upto_region 37 with fail
                go_quiet (fail)
                go_wp2
                go_ret
                exact ⟨rfl, below_drewN HE.out.below _⟩
end Go.Proofs.YbulkdxzcFmt
