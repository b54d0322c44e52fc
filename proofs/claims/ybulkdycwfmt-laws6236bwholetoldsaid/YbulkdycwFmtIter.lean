/- announced, announcedSize, NodeLen: by contract. -/
import Derived.Test.YbulkdycwFmtRange
namespace Go.Proofs.YbulkdycwFmt
open Go.RowKit Go.Shelf
set_option linter.unusedSimpArgs false
set_option linter.unusedVariables false
attribute [local go_sem] Oper.semAt_some

/-- The table nodeFields, in block 1. -/
def Table (w : World) (nv : Nat → ByteArray) : Prop := ∀ i, i < 16 → w.cell? ⟨1, i * 3, none⟩ = some (.int .u32 ((2 ^ (23 - fbit i) : Nat) : Int)) ∧ w.cell? ⟨1, i * 3 + 1, none⟩ = some (.int .i64 (fsz i)) ∧ w.cell? ⟨1, i * 3 + 2, none⟩ = some (.string (nv i))
/-- .. and the iterator's two boxes. -/
def Boxes (w : World) (nv : Nat → ByteArray) (Bs Bt T : Nat) : Prop := Table w nv ∧ w.cell? ⟨Bs, 0, none⟩ = some (.slice (some ⟨1, 0, none⟩) 16 16) ∧ w.cell? ⟨Bt, 0, none⟩ = some (.int .u32 (T : Int))

theorem fbit_le (i : Nat) : fbit i ≤ 11 := by
  unfold fbit
  rcases Nat.lt_or_ge i 16 with h | h
  · have : ∀ j : Fin 16, [0, 0, 1, 1, 2, 3, 4, 5, 6, 7, 8, 8, 9, 9, 10, 11].getD j.val 0 ≤ 11 := by decide
    exact this ⟨i, h⟩
  · rw [List.getD, List.getElem?_eq_none (by simpa using h)]; simp

theorem and_field (T i : Nat) (hT : T < 16777216) : bits .and .u32 (T : Int) ((2 ^ (23 - fbit i) : Nat) : Int) = if tbit T (fbit i) = true then ((2 ^ (23 - fbit i) : Nat) : Int) else 0 := by
  rw [and_pow T (23 - fbit i) (by omega) (by omega)]
  by_cases h : T / 2 ^ (23 - fbit i) % 2 = 1
  · rw [if_pos h, if_pos (by simp [tbit, h])]
  · rw [if_neg h, if_neg (by simp [tbit, h])]

set_option maxRecDepth 100000 in
set_option maxHeartbeats 2000000 in
theorem closure_iter (n : Nat) (hn : 1 ≤ n) (T Bs Bt : Nat) (hT : T < 16777216) (nv : Nat → ByteArray) (I : Nat → World → Prop) (hc : ∀ k W, I k W → Boxes W nv Bs Bt T) :
    Iter n Ybaf.prog 33 #[.pointer (some ⟨Bs, 0, none⟩), .pointer (some ⟨Bt, 0, none⟩)] 16 (fun k => tbit T (fbit k)) (fun k => .int .i64 (k : Int)) I := by
  intro l J W hJI hJa hJs hY h0
  refine callsIn_of_wp Ybaf.func33 rfl trivial ?_ rfl
  simp only [Ybaf.ntmps33, List.size_toArray, List.length_cons, List.length_nil, Nat.reduceAdd, Nat.reduceSub, Array.replicate_succ, Array.replicate_zero, List.push_toArray, List.append_toArray, List.nil_append, List.cons_append]
  have b0 := (hc 0 W (hJI 0 W h0)).2.1
  gi_wp2
  clear b0
  gi_loopw [8] (fun i wr => ∃ k : Nat, k ≤ 16 ∧ i = .int .i64 k ∧ J k wr) (fun i _ => 16 - (intOf i).toNat)
  case atStart => exact ⟨0, Nat.zero_le _, rfl, h0⟩
  case round =>
    obtain ⟨k, hk, rfl, hJ⟩ := hrel
    by_cases hlt : k < 16
    · have hlt' : (k : Int) < 16 := by omega
      have HJ : Hid (J k wr) := hJ
      obtain ⟨ht, _, b2⟩ := hc k wr (hJI k wr hJ)
      obtain ⟨t0, t1, t2⟩ := ht k hlt
      have ba := fun o => cell_alloc_of b2 o
      have hand := and_field T k hT
      obtain ⟨B, hB⟩ : ∃ B : Int, ((2 ^ (23 - fbit k) : Nat) : Int) = B := ⟨_, rfl⟩
      have hB1 : (0 : Int) < B := by rw [← hB]; exact Int.ofNat_lt.2 (Nat.two_pow_pos _)
      have hB0 : (B == 0) = false := by simp; omega
      have hB2 : (B != 0) = true := by simp; omega
      have hB3 : ¬ B = 0 := by omega
      clear hB1
      rw [hB] at hand t0
      clear ht b2 hB
      by_cases hb : tbit T (fbit k) = true
      · rw [if_pos hb] at hand
        obtain ⟨fn, tmps, assign, body, hy, hR⟩ := hY k (wr.alloc (.cells #[.int .u32 B, .int .i64 (fsz k), .string (nv k)] 72)) hlt hb (hJa _ _ _ HJ.out)
        clear hJ
        gi_wp2
        refine hR.mono ?_
        rintro e W3 ⟨rfl, hJ3⟩
        gi_wp2
        go_roundw
        case rel => exact ⟨k + 1, by omega, by simp, hJ3⟩
        case measure => simp [intOf]; omega
      · rw [if_neg hb] at hand
        clear hJ
        gi_wp2
        refine ⟨fun _ h => (by cases h), ?_⟩
        gi_wp2
        go_roundw
        case rel => exact ⟨k + 1, by omega, by simp, hJs _ _ hlt (by simpa using hb) (hJa _ _ _ HJ.out)⟩
        case measure => simp [intOf]; omega
    · obtain rfl : k = 16 := by omega
      gi_wp2
      go_end0
      exact ⟨⟨_, rfl⟩, hJ⟩

theorem putObj_cell {W : World} {l : Nat} {o : Obj} (o' : Obj) {a : Addr} {v : Value} (h : W.cell? a = some v) (hl : W.heap[l]? = some o) (ho : o.isCells = false) : (W.putObj l o').cell? a = some v := by
  obtain ⟨c, hc, hcc⟩ := cells_of_cell h
  have hne : a.block ≠ l := fun e => by subst e; rw [hl] at hc; cases hc; rw [ho] at hcc; cases hcc
  rw [World.cell?_of_block (w := W) (World.putObj_heap_other hne)]; exact h
theorem putObj_frozen {W : World} {l : Nat} {o : Obj} (o' : Obj) {a : Addr} {v : Value} (h : W.cell? a = some v) (hl : W.heap[l]? = some o) (ho : o.isCells = false) : (W.putObj l o').frozen? a = W.frozen? a := by
  obtain ⟨c, hc, hcc⟩ := cells_of_cell h
  have hne : a.block ≠ l := fun e => by subst e; rw [hl] at hc; cases hc; rw [ho] at hcc; cases hcc
  exact World.frozen?_of_block (w := W) (World.putObj_heap_other hne)
theorem frozen_alloc_of {w : World} {a : Addr} {v : Value} (h : w.cell? a = some v) (o : Obj) : (w.alloc o).frozen? a = w.frozen? a :=
  World.frozen?_of_block (w := w) (Below.heap_alloc _ _ _ (lt_of_cell h))
theorem putObj_below {B : Nat} {w0 W : World} {l : Nat} {o : Obj} (o' : Obj) (h : Below B w0 W) (hB : B ≤ l) (hl : W.heap[l]? = some o) : Below B w0 (W.putObj l o') :=
  h.trans ⟨rfl, rfl, rfl, by simp, fun k hk => World.putObj_heap_other (by omega)⟩
theorem Table.cells {w w' : World} {nv : Nat → ByteArray} (h : Table w nv) (hc : ∀ (a : Addr) v, w.cell? a = some v → w'.cell? a = some v) : Table w' nv :=
  fun i hi => ⟨hc _ _ (h i hi).1, hc _ _ (h i hi).2.1, hc _ _ (h i hi).2.2⟩
theorem Boxes.cells {w w' : World} {nv : Nat → ByteArray} {Bs Bt T : Nat} (h : Boxes w nv Bs Bt T) (hc : ∀ (a : Addr) v, w.cell? a = some v → w'.cell? a = some v) : Boxes w' nv Bs Bt T :=
  ⟨h.1.cells hc, hc _ _ h.2.1, hc _ _ h.2.2⟩
theorem Table.keep {w w' : World} {nv : Nat → ByteArray} {B : Nat} (h : Table w nv) (hb : Below B w w') (hB : 1 < B) : Table w' nv :=
  fun i hi => ⟨(hb.cell (p := ⟨1, _, none⟩) hB).trans (h i hi).1, (hb.cell (p := ⟨1, _, none⟩) hB).trans (h i hi).2.1, (hb.cell (p := ⟨1, _, none⟩) hB).trans (h i hi).2.2⟩

set_option maxRecDepth 100000 in
set_option maxHeartbeats 2000000 in
theorem announced_calls (T : Nat) (w : World) :
    Calls Ybaf.prog 29 #[.slice (some ⟨1, 0, none⟩) 16 16, .int .u32 (T : Int)] w fun e w' => e = .returned (.func (.func 33) #[] #[.pointer (some ⟨w.heap.size, 0, none⟩), .pointer (some ⟨w.heap.size + 1, 0, none⟩)]) ∧
      w' = (w.alloc (.cells #[.slice (some ⟨1, 0, none⟩) 16 16] 70)).alloc (.cells #[.int .u32 (T : Int)] 37) := by
  go_enter Ybaf.func29, Ybaf.ntmps29
  go_wp2
  go_ret
  exact ⟨rfl, rfl⟩

/-- The sizes of the announced fields below k, summed up. -/
def ssum (T : Nat) : Nat → Nat
  | 0 => 0
  | k + 1 => ssum T k + if tbit T (fbit k) = true then fsz k else 0
theorem fsz_le (i : Nat) : fsz i ≤ 8 := by
  unfold fsz
  rcases Nat.lt_or_ge i 16 with h | h
  · have : ∀ j : Fin 16, [1, 3, 2, 2, 4, 4, 4, 4, 4, 4, 1, 7, 4, 4, 8, 4].getD j.val 0 ≤ 8 := by decide
    exact this ⟨i, h⟩
  · rw [List.getD, List.getElem?_eq_none (by simpa using h)]; simp
theorem ssum_le (T k : Nat) : ssum T k ≤ 8 * k := by
  induction k with
  | zero => simp [ssum]
  | succ k ih =>
    have := fsz_le k
    rw [ssum]
    split <;> omega

theorem set_other {W : World} {a b : Addr} {v : Value} (u : Value) (h : W.cell? a = some v) (hne : a.block ≠ b.block) : (W.setCell b u).cell? a = some v := by
  rw [World.cell?_of_block (w := W) (Below.heap_setCell W b u a.block hne)]; exact h
theorem Boxes.set {w : World} {nv : Nat → ByteArray} {Bs Bt T : Nat} (h : Boxes w nv Bs Bt T) (b : Addr) (u : Value) (h1 : 1 ≠ b.block) (h2 : Bs ≠ b.block) (h3 : Bt ≠ b.block) : Boxes (w.setCell b u) nv Bs Bt T :=
  ⟨fun i hi => ⟨set_other u (h.1 i hi).1 h1, set_other u (h.1 i hi).2.1 h1, set_other u (h.1 i hi).2.2 h1⟩, set_other u h.2.1 h2, set_other u h.2.2 h3⟩
theorem KeepsOthers_drew (W : World) : KeepsOthers W W.drew := ⟨Nat.le_refl _, fun _ _ h _ => h⟩

theorem annSize_step {w W : World} {nv : Nat → ByteArray} {T k : Nat} (hw : 1 < w.heap.size) (hann : tbit T (fbit k) = true) (hk : k < 16)
    (hbx : Boxes W nv (w.heap.size + 1 + 1) (w.heap.size + 1 + 1 + 1) T) (c0 : W.cell? ⟨w.heap.size, 0, none⟩ = some (.slice (some ⟨1, 0, none⟩) 16 16)) (c1 : W.cell? ⟨w.heap.size + 1, 0, none⟩ = some (.int .i64 (ssum T k))) (f1 : W.frozen? ⟨w.heap.size + 1, 0, none⟩ = false) (hB : Below w.heap.size w W)
    (x : Int) (hx : x = ((ssum T k : Nat) : Int) + ((fsz k : Nat) : Int)) :
    KeepsOthers W (W.setCell ⟨w.heap.size + 1, 0, none⟩ (.int .i64 x)).drew ∧ Boxes (W.setCell ⟨w.heap.size + 1, 0, none⟩ (.int .i64 x)).drew nv (w.heap.size + 1 + 1) (w.heap.size + 1 + 1 + 1) T ∧
      (W.setCell ⟨w.heap.size + 1, 0, none⟩ (.int .i64 x)).drew.cell? ⟨w.heap.size, 0, none⟩ = some (.slice (some ⟨1, 0, none⟩) 16 16) ∧ (W.setCell ⟨w.heap.size + 1, 0, none⟩ (.int .i64 x)).drew.cell? ⟨w.heap.size + 1, 0, none⟩ = some (.int .i64 (ssum T (k + 1))) ∧
      (W.setCell ⟨w.heap.size + 1, 0, none⟩ (.int .i64 x)).drew.frozen? ⟨w.heap.size + 1, 0, none⟩ = false ∧ Below w.heap.size w (W.setCell ⟨w.heap.size + 1, 0, none⟩ (.int .i64 x)).drew := by
  refine ⟨(KeepsOthers.setCell _ _ _).trans (KeepsOthers_drew _), hbx.set _ _ (by show 1 ≠ w.heap.size + 1; omega) (by show w.heap.size + 1 + 1 ≠ w.heap.size + 1; omega) (by show w.heap.size + 1 + 1 + 1 ≠ w.heap.size + 1; omega), set_other _ c0 (by show w.heap.size ≠ w.heap.size + 1; omega), ?_, ?_, (hB.setCell (p := ⟨w.heap.size + 1, 0, none⟩) (by show w.heap.size ≤ w.heap.size + 1; omega) _).drew⟩
  · have : ((ssum T (k + 1) : Nat) : Int) = x := by rw [ssum, if_pos hann, hx]; simp
    rw [this]
    exact World.cell?_setCell_same' _ _ _ (by rw [c1]; rfl)
  · show (W.setCell _ _).frozen? _ = false
    rw [World.frozen?_setCell]; exact f1

theorem cell_new0 (w : World) (v : Value) (t : TypeId) : (w.alloc (.cells #[v] t)).cell? ⟨w.heap.size, 0, none⟩ = some v := by
  simp only [World.cell?, heap_alloc_new]; rfl
theorem frozen_new0 (w : World) (v : Value) (t : TypeId) : (w.alloc (.cells #[v] t)).frozen? ⟨w.heap.size, 0, none⟩ = false := by
  simp only [World.frozen?, heap_alloc_new]; rfl

set_option maxRecDepth 100000 in
set_option maxHeartbeats 2000000 in
theorem annSize_in (n : Nat) (hn : 3 ≤ n) (T : Nat) (hT : T < 16777216) (nv : Nat → ByteArray) (w : World) (ht : Table w nv) (hw : 1 < w.heap.size) :
    CallsIn Fence.wide n Ybaf.prog 26 #[.slice (some ⟨1, 0, none⟩) 16 16, .int .u32 (T : Int)] w fun e w' => e = .returned (.int .i64 (ssum T 16)) ∧ Below w.heap.size w w' := by
  have h1 : 1 ≤ n := by omega
  refine callsIn_of_wp_marks Ybaf.func26 rfl trivial ?_ rfl
  simp only [Ybaf.ntmps26, List.size_toArray, List.length_cons, List.length_nil, Nat.reduceAdd, Nat.reduceSub, Array.replicate_succ, Array.replicate_zero, List.push_toArray, List.append_toArray, List.nil_append, List.cons_append]
  gi_wp2_with (first | (refine ⟨trivial, ?_⟩; gi_at_call 29; refine (callsIn_wide.2 (announced_calls T _)).mono ?_; rintro e w' ⟨rfl, rfl⟩) | (gi_at_call 29; refine (callsIn_wide.2 (announced_calls T _)).mono ?_; rintro e w' ⟨rfl, rfl⟩))
  refine wpIn_range_iter (gf := 33) (lb := #[.pointer (some ⟨w.heap.size + 1 + 1, 0, none⟩), .pointer (some ⟨w.heap.size + 1 + 1 + 1, 0, none⟩)]) rfl (enters_of Ybaf.func33 (by kernel_rfl) rfl)
    (fun k W => Boxes W nv (w.heap.size + 1 + 1) (w.heap.size + 1 + 1 + 1) T ∧ W.cell? ⟨w.heap.size, 0, none⟩ = some (.slice (some ⟨1, 0, none⟩) 16 16) ∧ W.cell? ⟨w.heap.size + 1, 0, none⟩ = some (.int .i64 (ssum T k)) ∧ W.frozen? ⟨w.heap.size + 1, 0, none⟩ = false ∧ Below w.heap.size w W)
    (closure_iter (n - 1) (by omega) T _ _ hT nv _ (fun k W h => h.1)) rfl
    ⟨fun o h => ⟨h.1.cells (fun a v hc => cell_alloc_of hc o), cell_alloc_of h.2.1 o, cell_alloc_of h.2.2.1 o, (frozen_alloc_of h.2.2.1 o).trans h.2.2.2.1, h.2.2.2.2.alloc h.2.2.2.2.size o⟩,
      fun o' hB h hl ho => ⟨h.1.cells (fun a v hc => putObj_cell o' hc hl ho), putObj_cell o' h.2.1 hl ho, putObj_cell o' h.2.2.1 hl ho, (putObj_frozen o' h.2.2.1 hl ho).trans h.2.2.2.1, putObj_below o' h.2.2.2.2 (by simp at hB; omega) hl⟩⟩
    (fun k W hk hann h => ⟨h.1, h.2.1, by rw [ssum, if_neg (by simp [hann])]; exact h.2.2.1, h.2.2.2⟩) ?start
    (fun k => { tmps := #[.slice (some ⟨1, 0, none⟩) 16 16, .int .u32 (T : Int), .pointer (some ⟨w.heap.size, 0, none⟩), undef, .int .i64 0, .pointer (some ⟨w.heap.size + 1, 0, none⟩), .int .i64 (k : Int), .slice (some ⟨1, 0, none⟩) 16 16, .int .u32 (T : Int),
      .func (.func 33) #[] #[.pointer (some ⟨w.heap.size + 1 + 1, 0, none⟩), .pointer (some ⟨w.heap.size + 1 + 1 + 1, 0, none⟩)], .int .i64 (k : Int), undef, undef, undef, undef, undef, undef, undef, undef], defers := [] }) ?assign ?body ?done
  case start =>
    have hb : Below w.heap.size w ((((w.alloc (.cells #[.slice (some ⟨1, 0, none⟩) 16 16] 70)).alloc (.cells #[.int .i64 0] 3)).alloc (.cells #[.slice (some ⟨1, 0, none⟩) 16 16] 70)).alloc (.cells #[.int .u32 (T : Int)] 37)) :=
      ((((Below.refl _ w).alloc (Nat.le_refl _) _).alloc (by simp) _).alloc (by simp; omega) _).alloc (by simp; omega) _
    have e0 := cell_new0 w (.slice (some ⟨1, 0, none⟩) 16 16) 70
    have e1 := cell_new0 (w.alloc (.cells #[.slice (some ⟨1, 0, none⟩) 16 16] 70)) (.int .i64 0) 3
    have g1 := frozen_new0 (w.alloc (.cells #[.slice (some ⟨1, 0, none⟩) 16 16] 70)) (.int .i64 0) 3
    have e2 := cell_new0 ((w.alloc (.cells #[.slice (some ⟨1, 0, none⟩) 16 16] 70)).alloc (.cells #[.int .i64 0] 3)) (.slice (some ⟨1, 0, none⟩) 16 16) 70
    have e3 := cell_new0 (((w.alloc (.cells #[.slice (some ⟨1, 0, none⟩) 16 16] 70)).alloc (.cells #[.int .i64 0] 3)).alloc (.cells #[.slice (some ⟨1, 0, none⟩) 16 16] 70)) (.int .u32 (T : Int)) 37
    simp only [World.size_alloc] at e1 g1 e2 e3
    exact ⟨⟨ht.keep hb hw, cell_alloc_of e2 _, e3⟩, cell_alloc_of (cell_alloc_of (cell_alloc_of e0 _) _) _, cell_alloc_of (cell_alloc_of e1 _) _, (frozen_alloc_of (cell_alloc_of e1 _) _).trans ((frozen_alloc_of e1 _).trans g1), hb⟩
  case assign =>
    intro l k W K hK
    gi_wp2
    exact hK
  case body =>
    rintro l k W hk hann ⟨hbx, c0, c1, f1, hB⟩
    obtain ⟨t0, t1, t2⟩ := hbx.1 k hk
    have hk' : (k : Int) < 16 := by omega
    have hs1 := ssum_le T k
    have hs2 := fsz_le k
    have hm : Ybaf.prog.follows .mixedOrders = true := by kernel_rfl
    gi_wp2
    gi_region_with_o (fail)
    all_goals gi_wp2
    all_goals exact annSize_step hw hann hk hbx c0 c1 f1 hB _ (by rw [IntKind.wrap_i64]; omega)
  case done =>
    rintro D W hD ⟨hbx, c0, c1, f1, hB⟩ hK
    gi_wp2
    refine ⟨by simp, .inl ⟨_, _, rfl, run_takeDeferred hK, ?_⟩⟩
    exact ⟨_, results_tmp rfl _ _ _, rfl, putObj_below _ hB (by simp at hD; omega) hK⟩
end Go.Proofs.YbulkdycwFmt
