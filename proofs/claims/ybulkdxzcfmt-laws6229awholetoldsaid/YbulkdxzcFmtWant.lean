import Derived.Test.YbulkdxzcFmtUnex
import Derived.Deep.RegionHeld
import Derived.Deep.RegionHeldLaw
namespace Go.Proofs.YbulkdxzcFmt
open Go.RowKit Go.Maps
set_option linter.unusedSimpArgs false
set_option linter.unusedVariables false
open Go.Extern.Stop Go.Stop Go.Extern
set_option maxRecDepth 100000 in
set_option maxHeartbeats 2000000 in
theorem unexpected {H : Type} (F : Interp) (Pb T n cap i : Nat) (nm : ByteArray) (dp bl : Int) (b1 b2 b3 : Bool) (k : Int) (t f : ByteArray) (l c : Int) (want : ByteArray) (bm nm' : Nat) (D : DataW H) (bo oo no co : Nat) (ov : Nat → ByteArray) (kv : Nat → Int) (w : World) (hi : i < n) (hn : n ≤ 1048577)
    (hP : w.heap[Pb]? = some (.cells (parc nm T n cap i dp bl b1 b2 b3) 35 (0, 0))) (hT : TokAt w T i k t f l c) (hF : F.answers w.tape) (hV : Vars H w bm nm' D bo oo no co ov kv) :
    Calls Ybaf.prog 9 #[.pointer (some ⟨Pb, 0, none⟩), .string want] w fun e w' => ∃ E msg, e = .returned (.iface 43 (.pointer (some ⟨E, 0, none⟩))) ∧ w.heap.size ≤ E ∧ w'.heap[E]? = some (.cells #[.string f, .int .i64 l, .int .i64 c, .string msg] 46 (0, 0)) ∧ (k = 1 → msg = t) ∧ Below w.heap.size w w' := by
  have HV : Hid (Vars H w bm nm' D bo oo no co ov kv) := hV
  have HF : Hid (F.answers w.tape) := hF
  have HP : Hid (w.heap[Pb]? = some (.cells (parc nm T n cap i dp bl b1 b2 b3) 35 (0, 0))) := hP
  have HT : Hid (TokAt w T i k t f l c) := hT
  clear hV hF hP hT
  go_enter Ybaf.func9, Ybaf.ntmps9
  by_cases h1 : k = 1
  · subst h1
    go_wp2_with (go_at_call 8; refine (tok Pb T n cap i nm dp bl b1 b2 b3 1 t f l c _ hi hn HP.out HT.out).mono ?_; rintro e' w' ⟨rfl, hb⟩; have HB : Hid (Below _ _ _) := hb; clear hb)
    go_ret
    exact ⟨w'.heap.size + 1, rfl, by have := HB.out.size; omega, t, heap_alloc2_new _ _ _, rfl, (HB.out.alloc HB.out.size _).alloc (by have := HB.out.size; simp; omega) _⟩
  · have g1 : (k == 1) = false := by simpa using h1
    go_upto_region 4 with (go_at_call 8; refine (tok Pb T n cap i nm dp bl b1 b2 b3 k t f l c _ hi hn HP.out HT.out).mono ?_; rintro e' w' ⟨rfl, hb⟩; have HB : Hid (Below _ _ _) := hb; clear hb)
    have hF2 : F.answers w'.tape := by rw [HB.out.tape]; exact HF.out
    have hV2 : ∀ o : Obj, Vars H ((w'.alloc (.cells #[.int .i64 k, .string t, .string f, .int .i64 l, .int .i64 c] 31)).alloc o).drew bm nm' D bo oo no co ov kv := fun o => HV.out.keep (((HB.out.alloc HB.out.size _).alloc (by have := HB.out.size; simp; omega) o).drew) (Nat.le_refl _)
    have q1 := call12
    have q2 := guarded
    have q3 := fmtExp
    go_region_held (fun x => x.cell? ⟨w'.heap.size, 0, none⟩ = some (.int .i64 k) ∧ x.cell? ⟨w'.heap.size, 1, none⟩ = some (.string t) ∧ x.cell? ⟨w'.heap.size, 2, none⟩ = some (.string f) ∧ x.cell? ⟨w'.heap.size, 3, none⟩ = some (.int .i64 l) ∧ x.cell? ⟨w'.heap.size, 4, none⟩ = some (.int .i64 c)) (first | go_keep | (refine ⟨?_, ?_, ?_, ?_, ?_⟩ <;> (rw [hB4.cell (by simp; omega)]; simp [*]))) ((refine rows_exp F k t f l c want bm nm' D bo oo no co ov kv _ (by exact hF2) (by exact hV2 _) (w'.heap.size + 1) (by go_simp) (by go_simp) ?_; intro s w4 hB4))
    all_goals
      have hz : w.heap.size ≤ w4.heap.size := by have := hB4.size; have := HB.out.size; simp at *; omega
      have HBw : Hid (Below w.heap.size w w4) := (((HB.out.alloc HB.out.size _).alloc (by have := HB.out.size; simp; omega) _).drew).trans (hB4.mono (by have := HB.out.size; simp; omega))
      go_wp2
      go_ret
      exact ⟨w4.heap.size, s, rfl, hz, heap_alloc_new _ _, fun h => absurd h h1, HBw.out.alloc hz _⟩
end Go.Proofs.YbulkdxzcFmt
