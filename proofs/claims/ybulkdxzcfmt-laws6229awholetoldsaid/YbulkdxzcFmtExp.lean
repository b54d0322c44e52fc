/- expect(tokName), ident: by contract. -/
import Derived.Test.YbulkdxzcFmtWant
import Derived.Laws.ResultCell
namespace Go.Proofs.YbulkdxzcFmt
open Go.RowKit Go.Maps
open Go.Extern.Stop Go.Stop Go.Extern
set_option linter.unusedSimpArgs false
set_option linter.unusedVariables false

/-- Only the parser's block has turned, of what was there. -/
structure Step (Pb : Nat) (rc : Array Value) (w w' : World) : Prop where
  par : w'.heap[Pb]? = some (.cells rc 35 (0, 0))
  other : ∀ j, j < w.heap.size → j ≠ Pb → w'.heap[j]? = w.heap[j]?
  below : ∀ B, B ≤ Pb → Below B w w'
  size : w.heap.size ≤ w'.heap.size

theorem results_cell_row_tmp {P : Program} {fn : Func} {p u : Tmp} {ty : TypeId} (h : fn.results = #[.cell p ty, .tmp u]) (tmps : Array Value) (w : World) (g : Nat) (t : TypeId) (cs : Array Value) (fr : Nat × Nat) (d : TypeDesc) (v : Value)
    (hp : tmps.getD p undef = .pointer (some ⟨g, 0, none⟩)) (hv : tmps.getD u undef = v) (hg : w.heap[g]? = some (.cells cs t fr))
    (hu : P.underlying ty = some d) (hd : (match d with | .struct _ | .array _ _ => true | _ => false) = true) (hi : (P.info? ty).map (·.size) = some cs.size) :
    (results fn tmps).run P w = .ok (.tuple #[.agg cs, v]) w := by
  rw [results_cell_tmp h, hp, hv]
  simp [asAddr, run_loadVar_row w g t ty cs fr d hg hu hd hi]

theorem five_set {w : World} {g : Nat} {t : TypeId} {a0 a1 a2 a3 a4 : Value} (v0 v1 v2 v3 v4 : Value) (hg : w.heap[g]? = some (.cells #[a0, a1, a2, a3, a4] t (0, 0))) :
    (((((w.setCell ⟨g, 0, none⟩ v0).setCell ⟨g, 1, none⟩ v1).setCell ⟨g, 2, none⟩ v2).setCell ⟨g, 3, none⟩ v3).setCell ⟨g, 4, none⟩ v4).heap[g]? = some (.cells #[v0, v1, v2, v3, v4] t (0, 0)) := by
  have h0 := heap_setCell_same w g 0 _ t v0 hg
  have h1 := heap_setCell_same _ g 1 _ t v1 h0
  have h2 := heap_setCell_same _ g 2 _ t v2 h1
  have h3 := heap_setCell_same _ g 3 _ t v3 h2
  have h4 := heap_setCell_same _ g 4 _ t v4 h3
  simpa using h4
theorem five_other {w : World} {g j : Nat} (v0 v1 v2 v3 v4 : Value) (h : j ≠ g) :
    (((((w.setCell ⟨g, 0, none⟩ v0).setCell ⟨g, 1, none⟩ v1).setCell ⟨g, 2, none⟩ v2).setCell ⟨g, 3, none⟩ v3).setCell ⟨g, 4, none⟩ v4).heap[j]? = w.heap[j]? := by
  rw [Below.heap_setCell _ _ _ _ h, Below.heap_setCell _ _ _ _ h, Below.heap_setCell _ _ _ _ h, Below.heap_setCell _ _ _ _ h, Below.heap_setCell _ _ _ _ h]
theorem five_below {w0 w : World} {g B : Nat} (v0 v1 v2 v3 v4 : Value) (h : Below B w0 w) (hg : B ≤ g) :
    Below B w0 (((((w.setCell ⟨g, 0, none⟩ v0).setCell ⟨g, 1, none⟩ v1).setCell ⟨g, 2, none⟩ v2).setCell ⟨g, 3, none⟩ v3).setCell ⟨g, 4, none⟩ v4) :=
  ((((h.setCell (p := ⟨g, 0, none⟩) hg _).setCell (p := ⟨g, 1, none⟩) hg _).setCell (p := ⟨g, 2, none⟩) hg _).setCell (p := ⟨g, 3, none⟩) hg _).setCell (p := ⟨g, 4, none⟩) hg _
theorem five_size {w : World} {g : Nat} (v0 v1 v2 v3 v4 : Value) :
    (((((w.setCell ⟨g, 0, none⟩ v0).setCell ⟨g, 1, none⟩ v1).setCell ⟨g, 2, none⟩ v2).setCell ⟨g, 3, none⟩ v3).setCell ⟨g, 4, none⟩ v4).heap.size = w.heap.size := by
  simp only [World.size_setCell]
/-- A block of five cells, cell by cell. -/
theorem five_cells {w : World} {g : Nat} {t : TypeId} {a0 a1 a2 a3 a4 : Value} (hg : w.heap[g]? = some (.cells #[a0, a1, a2, a3, a4] t (0, 0))) :
    (w.cell? ⟨g, 0, none⟩ = some a0 ∧ w.cell? ⟨g, 1, none⟩ = some a1 ∧ w.cell? ⟨g, 2, none⟩ = some a2 ∧ w.cell? ⟨g, 3, none⟩ = some a3 ∧ w.cell? ⟨g, 4, none⟩ = some a4) ∧
    (w.frozen? ⟨g, 0, none⟩ = false ∧ w.frozen? ⟨g, 1, none⟩ = false ∧ w.frozen? ⟨g, 2, none⟩ = false ∧ w.frozen? ⟨g, 3, none⟩ = false ∧ w.frozen? ⟨g, 4, none⟩ = false) := by
  simp [World.cell?, World.frozen?, hg]
abbrev zeroc : Array Value := #[.int .i64 0, .string ⟨#[]⟩, .string ⟨#[]⟩, .int .i64 0, .int .i64 0]

set_option maxRecDepth 100000 in
set_option maxHeartbeats 2000000 in
theorem expect {H : Type} (F : Interp) (Pb T n cap i : Nat) (nm : ByteArray) (dp bl : Int) (b1 b2 b3 : Bool) (k : Int) (t f : ByteArray) (l c : Int) (bm nm' : Nat) (D : DataW H) (bo oo no co : Nat) (ov : Nat → ByteArray) (kv : Nat → Int) (w : World) (hi : i < n) (hn : n ≤ 1048577)
    (hP : w.heap[Pb]? = some (.cells (parc nm T n cap i dp bl b1 b2 b3) 35 (0, 0))) (hT : TokAt w T i k t f l c) (hF : F.answers w.tape) (hV : Vars H w bm nm' D bo oo no co ov kv) :
    Calls Ybaf.prog 7 #[.pointer (some ⟨Pb, 0, none⟩), .int .i64 3] w fun e w' => ∃ v, e = .returned (.tuple #[.agg (tokc k t f l c), v]) ∧
      ((k = 3 ∧ v = .nilIface ∧ Step Pb (parc nm T n cap (nextI i n) dp bl b1 b2 b3) w w') ∨
       (k ≠ 3 ∧ ∃ E msg, v = .iface 43 (.pointer (some ⟨E, 0, none⟩)) ∧ w.heap.size ≤ E ∧ w'.heap[E]? = some (.cells #[.string f, .int .i64 l, .int .i64 c, .string msg] 46 (0, 0)) ∧ (k = 1 → msg = t) ∧ Below w.heap.size w w')) := by
  have hPs : Pb < w.heap.size := (Array.getElem?_eq_some_iff.1 hP).1
  have hTs : T < w.heap.size := lt_of_cell hT.1
  have HV : Hid (Vars H w bm nm' D bo oo no co ov kv) := hV
  have HF : Hid (F.answers w.tape) := hF
  have HP : Hid (w.heap[Pb]? = some (.cells (parc nm T n cap i dp bl b1 b2 b3) 35 (0, 0))) := hP
  have HT : Hid (TokAt w T i k t f l c) := hT
  clear hV hF hP hT
  have HB1 : Hid (Below w.heap.size w (w.alloc (.cells #[.int .i64 0, .string ⟨#[]⟩, .string ⟨#[]⟩, .int .i64 0, .int .i64 0] 31))) := (Below.refl _ _).alloc (Nat.le_refl _) _
  go_enter Ybaf.func7, Ybaf.ntmps7
  by_cases h3 : k = 3
  · subst h3
    go_wp2_with (first
      | (go_at_call 8; refine (tok Pb T n cap i nm dp bl b1 b2 b3 3 t f l c _ hi hn ((HB1.out.block Pb hPs).trans HP.out) (HT.out.keep HB1.out hTs)).mono ?_; rintro e' w' ⟨rfl, hb⟩; have HB : Hid (Below w.heap.size w w' ∧ w.heap.size < w'.heap.size ∧ w'.heap[w.heap.size]? = some (.cells zeroc 31 (0, 0))) := ⟨HB1.out.trans (hb.mono (by simp)), by have := hb.size; simp at this; omega, (hb.block w.heap.size (by simp)).trans (heap_alloc_new _ _)⟩; clear hb)
      | (go_at_call 11; refine (advance Pb T n cap i nm dp bl b1 b2 b3 _ hi hn ((Below.heap_alloc _ _ _ (by have := HB.out.2.1; omega)).trans ((HB.out.1.block Pb hPs).trans HP.out))).mono ?_; rintro e' w3 ⟨⟨v, rfl⟩, ha⟩; have HA : Hid (Adv Pb (parc nm T n cap (nextI i n) dp bl b1 b2 b3) _ w3) := ha; obtain ⟨⟨c0, c1, c2, c3, c4⟩, _⟩ := five_cells ((ha.other w'.heap.size (by have := HB.out.2.1; omega)).trans (heap_alloc_new _ _)); obtain ⟨⟨d0, d1, d2, d3, d4⟩, ⟨f0, f1, f2, f3, f4⟩⟩ := five_cells ((ha.other w.heap.size (by omega)).trans ((Below.heap_alloc _ _ _ HB.out.2.1).trans HB.out.2.2)); clear ha))
    have hz3 : w3.heap[w.heap.size]? = some (.cells zeroc 31 (0, 0)) := (HA.out.other w.heap.size (by omega)).trans ((Below.heap_alloc _ _ _ HB.out.2.1).trans HB.out.2.2)
    refine bodyPost_ret (results_cell_row_tmp (p := 4) (u := 5) (ty := 31) (by kernel_rfl) _ _ w.heap.size 31 (tokc 3 t f l c) (0, 0) _ .nilIface rfl rfl (five_set _ _ _ _ _ hz3) Ybaf.underlying31 rfl (by kernel_rfl)) rfl ?_
    have hws := HB.out.2.1
    refine ⟨_, rfl, rfl, (five_other _ _ _ _ _ (by omega)).trans HA.out.par, fun j hj hne => (five_other _ _ _ _ _ (by omega)).trans ((HA.out.other j hne).trans ((Below.heap_alloc _ _ _ (by omega)).trans (HB.out.1.block j hj))), fun B hB => five_below _ _ _ _ _ (((HB.out.1.mono (by omega)).alloc (by omega) _).trans (HA.out.below B hB)) (by omega), ?_⟩
    rw [five_size, HA.out.size]
    simp; omega
  · have g3 : (k == 3) = false := by simpa using h3
    go_upto_region 3 with (first | (go_at_call 8; refine (tok Pb T n cap i nm dp bl b1 b2 b3 k t f l c _ hi hn ((HB1.out.block Pb hPs).trans HP.out) (HT.out.keep HB1.out hTs)).mono ?_; rintro e' w' ⟨rfl, hb⟩; have HB : Hid (Below w.heap.size w w' ∧ w.heap.size < w'.heap.size ∧ w'.heap[w.heap.size]? = some (.cells zeroc 31 (0, 0))) := ⟨HB1.out.trans (hb.mono (by simp)), by have := hb.size; simp at this; omega, (hb.block w.heap.size (by simp)).trans (heap_alloc_new _ _)⟩; clear hb))
    obtain ⟨wA, HA⟩ : ∃ wA : World, Hid (wA = (w'.alloc (.cells #[.int .i64 k, .string t, .string f, .int .i64 l, .int .i64 c] 31))) := ⟨_, rfl⟩
    have hAB : Below w.heap.size w wA := by rw [HA.out]; exact HB.out.1.alloc (by have := HB.out.2.1; omega) _
    have hA5 : wA.heap[w'.heap.size]? = some (.cells (tokc k t f l c) 31 (0, 0)) := by rw [HA.out]; exact heap_alloc_new _ _
    have hAz : wA.heap[w.heap.size]? = some (.cells zeroc 31 (0, 0)) := by rw [HA.out]; exact (Below.heap_alloc _ _ _ HB.out.2.1).trans HB.out.2.2
    have hAs : w'.heap.size < wA.heap.size := (Array.getElem?_eq_some_iff.1 hA5).1
    have hws := HB.out.2.1
    have hAF : F.answers wA.tape := by rw [hAB.tape]; exact HF.out
    have hAzs : w.heap.size < wA.heap.size := by omega
    rw [← HA.out]
    obtain ⟨⟨c0, c1, c2, c3, c4⟩, _⟩ := five_cells hA5
    go_region_held (fun x => x.cell? ⟨w'.heap.size, 0, none⟩ = some (.int .i64 k) ∧ x.cell? ⟨w'.heap.size, 1, none⟩ = some (.string t) ∧ x.cell? ⟨w'.heap.size, 2, none⟩ = some (.string f) ∧ x.cell? ⟨w'.heap.size, 3, none⟩ = some (.int .i64 l) ∧ x.cell? ⟨w'.heap.size, 4, none⟩ = some (.int .i64 c)) (first | go_keep | exact (five_cells ((five_other _ _ _ _ _ (Nat.ne_of_gt hws)).trans h55)).1) (first
      | (go_at_call 10; refine (kstr F 3 bm nm' D bo oo no co ov kv _ (by exact hAF) (HV.out.keep hAB.drew (Nat.le_refl _))).mono ?_; rintro e' w4 ⟨⟨s, rfl⟩, hb⟩; obtain ⟨hB4, h4z, h45⟩ : Below w.heap.size w w4 ∧ w4.heap[w.heap.size]? = some (.cells zeroc 31 (0, 0)) ∧ w4.heap[w'.heap.size]? = some (.cells (tokc k t f l c) 31 (0, 0)) := ⟨hAB.drew.trans (hb.mono hAB.size), (hb.block _ hAzs).trans hAz, (hb.block _ hAs).trans hA5⟩; clear hb; obtain ⟨⟨c0', c1', c2', c3', c4'⟩, _⟩ := five_cells h45)
      | (go_at_call 9; refine (unexpected F Pb T n cap i nm dp bl b1 b2 b3 k t f l c s bm nm' D bo oo no co ov kv _ hi hn ((hB4.block Pb hPs).trans HP.out) (HT.out.keep hB4 hTs) (by rw [hB4.tape]; exact HF.out) (HV.out.keep hB4 (Nat.le_refl _))).mono ?_; rintro e' w5 ⟨E, msg, rfl, hE, hEc, hm, hb⟩; obtain ⟨hB5, h5z, h55⟩ : Below w.heap.size w w5 ∧ w5.heap[w.heap.size]? = some (.cells zeroc 31 (0, 0)) ∧ w5.heap[w'.heap.size]? = some (.cells (tokc k t f l c) 31 (0, 0)) := ⟨hB4.trans (hb.mono hB4.size), (hb.block _ ((Array.getElem?_eq_some_iff.1 h4z).1)).trans h4z, (hb.block _ ((Array.getElem?_eq_some_iff.1 h45).1)).trans h45⟩; have hE' : w.heap.size < E := Nat.lt_of_lt_of_le ((Array.getElem?_eq_some_iff.1 h4z).1) hE; have HM : Hid (k = 1 → msg = t) := hm; clear hb hE hm; obtain ⟨⟨c0'', c1'', c2'', c3'', c4''⟩, _⟩ := five_cells h55; obtain ⟨⟨d0, d1, d2, d3, d4⟩, ⟨f0, f1, f2, f3, f4⟩⟩ := five_cells h5z))
    all_goals
      go_wp2
      refine bodyPost_ret (results_cell_row_tmp (p := 4) (u := 5) (ty := 31) (by kernel_rfl) _ _ w.heap.size 31 (tokc k t f l c) (0, 0) _ (.iface 43 (.pointer (some ⟨E, 0, none⟩))) rfl rfl (five_set _ _ _ _ _ h5z) Ybaf.underlying31 rfl (by kernel_rfl)) rfl ?_
      exact ⟨_, rfl, .inr ⟨h3, E, msg, rfl, Nat.le_of_lt hE', (five_other _ _ _ _ _ (Nat.ne_of_gt hE')).trans hEc, HM.out, five_below _ _ _ _ _ hB5 (Nat.le_refl _)⟩⟩

theorem Step.alloc {Pb : Nat} {rc : Array Value} {w w' : World} (h : Step Pb rc w w') (o : Obj) (hPb : Pb < w.heap.size) : Step Pb rc w (w'.alloc o) :=
  ⟨(Below.heap_alloc _ _ _ (Nat.lt_of_lt_of_le hPb h.size)).trans h.par, fun j hj hne => (Below.heap_alloc _ _ _ (Nat.lt_of_lt_of_le hj h.size)).trans (h.other j hj hne), fun B hB => (h.below B hB).alloc (by have := h.size; omega) o, by have := h.size; simp; omega⟩

set_option maxRecDepth 100000 in
set_option maxHeartbeats 2000000 in
theorem ident {H : Type} (F : Interp) (Pb T n cap i : Nat) (nm : ByteArray) (dp bl : Int) (b1 b2 b3 : Bool) (k : Int) (t f : ByteArray) (l c : Int) (bm nm' : Nat) (D : DataW H) (bo oo no co : Nat) (ov : Nat → ByteArray) (kv : Nat → Int) (w : World) (hi : i < n) (hn : n ≤ 1048577)
    (hP : w.heap[Pb]? = some (.cells (parc nm T n cap i dp bl b1 b2 b3) 35 (0, 0))) (hT : TokAt w T i k t f l c) (hF : F.answers w.tape) (hV : Vars H w bm nm' D bo oo no co ov kv) :
    Calls Ybaf.prog 5 #[.pointer (some ⟨Pb, 0, none⟩)] w fun e w' => ∃ p v, e = .returned (.tuple #[p, v]) ∧
      ((k = 3 ∧ v = .nilIface ∧ (∃ I, p = .pointer (some ⟨I, 0, none⟩) ∧ w.heap.size ≤ I ∧ w'.heap[I]? = some (.cells #[.string f, .int .i64 l, .int .i64 c, .string t] 42 (0, 0))) ∧ Step Pb (parc nm T n cap (nextI i n) dp bl b1 b2 b3) w w') ∨
       (k ≠ 3 ∧ p = .pointer none ∧ ∃ E msg, v = .iface 43 (.pointer (some ⟨E, 0, none⟩)) ∧ w.heap.size ≤ E ∧ w'.heap[E]? = some (.cells #[.string f, .int .i64 l, .int .i64 c, .string msg] 46 (0, 0)) ∧ (k = 1 → msg = t) ∧ Below w.heap.size w w')) := by
  have hPs : Pb < w.heap.size := (Array.getElem?_eq_some_iff.1 hP).1
  have HV : Hid (Vars H w bm nm' D bo oo no co ov kv) := hV
  have HF : Hid (F.answers w.tape) := hF
  have HP : Hid (w.heap[Pb]? = some (.cells (parc nm T n cap i dp bl b1 b2 b3) 35 (0, 0))) := hP
  have HT : Hid (TokAt w T i k t f l c) := hT
  clear hV hF hP hT
  go_enter Ybaf.func5, Ybaf.ntmps5
  by_cases h3 : k = 3
  · subst h3
    have q := (expect F Pb T n cap i nm dp bl b1 b2 b3 3 t f l c bm nm' D bo oo no co ov kv _ hi hn HP.out HT.out HF.out HV.out).mono (R' := fun e w' => e = .returned (.tuple #[.agg (tokc 3 t f l c), .nilIface]) ∧ Step Pb (parc nm T n cap (nextI i n) dp bl b1 b2 b3) w w') (by
      rintro e' w' ⟨v, rfl, h | h⟩
      · obtain ⟨_, rfl, hS⟩ := h; exact ⟨rfl, hS⟩
      · exact absurd rfl h.1)
    have HQ : Hid (Calls Ybaf.prog 7 #[.pointer (some ⟨Pb, 0, none⟩), .int .i64 3] w fun e w' => e = .returned (.tuple #[.agg (tokc 3 t f l c), .nilIface]) ∧ Step Pb (parc nm T n cap (nextI i n) dp bl b1 b2 b3) w w') := q
    clear q
    go_wp2_with (go_at_call 7; refine HQ.out.mono ?_; rintro e' w' ⟨rfl, hS⟩; have HS : Hid (Step Pb (parc nm T n cap (nextI i n) dp bl b1 b2 b3) w w') := hS; clear hS)
    go_ret2
    exact ⟨_, _, rfl, rfl, ⟨w'.heap.size + 1, rfl, by have := HS.out.size; omega, heap_alloc2_new _ _ _⟩, (HS.out.alloc _ hPs).alloc _ hPs⟩
  · have q := (expect F Pb T n cap i nm dp bl b1 b2 b3 k t f l c bm nm' D bo oo no co ov kv _ hi hn HP.out HT.out HF.out HV.out).mono (R' := fun e w' => ∃ E, e = .returned (.tuple #[.agg (tokc k t f l c), .iface 43 (.pointer (some ⟨E, 0, none⟩))]) ∧ Hid (w.heap.size ≤ E ∧ Below w.heap.size w w' ∧ ∃ msg, w'.heap[E]? = some (.cells #[.string f, .int .i64 l, .int .i64 c, .string msg] 46 (0, 0)) ∧ (k = 1 → msg = t))) (by
      rintro e' w' ⟨v, rfl, h | h⟩
      · exact absurd h.1 h3
      · obtain ⟨_, E, msg, rfl, hE, hEc, hm, hb⟩ := h; exact ⟨E, rfl, hE, hb, msg, hEc, hm⟩)
    have HQ : Hid (Calls Ybaf.prog 7 #[.pointer (some ⟨Pb, 0, none⟩), .int .i64 3] w _) := q
    clear q
    go_wp2_with (go_at_call 7; refine HQ.out.mono ?_; rintro e' w' ⟨E, rfl, HS⟩)
    go_ret2
    obtain ⟨hE, hb, msg, hEc, hm⟩ := HS.out
    exact ⟨_, _, rfl, .inr ⟨h3, rfl, E, msg, rfl, hE, (Below.heap_alloc _ _ _ (Array.getElem?_eq_some_iff.1 hEc).1).trans hEc, hm, hb.alloc hb.size _⟩⟩
end Go.Proofs.YbulkdxzcFmt
