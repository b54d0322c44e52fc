/- The row of the law on components, told, closed over the walk. -/
import Derived.Test.YbulkdxyaFmtLawA
import Derived.Test.YbulkdxyaFmtOpen
import Derived.Test.YbulkdxyaFmtRows
import Derived.Test.YbulkdxyaFmtCards
import Derived.Stop.JoinedTold
import Derived.SevenToldRow
import Derived.OpenVars
import Derived.SizedLaws
import Derived.ChangeOld
namespace Go.Proofs.YbulkdxyaFmt.lawS6227AWhole
open Go.ChangeShapes Go.WideShapes Go.ChangeAt Go.RowKit
open Go.Extern.Stop Go.Stop Go.Extern
set_option linter.unusedSimpArgs false
set_option linter.unusedVariables false

theorem own : ownKnob Ybaf.prog.godebug = none := by kernel_rfl
theorem laidOut : laidOutB Ybaf.prog = true := by kernel_rfl
theorem stops : Ybaf.pinned.checked.prog.stops = Rows.lawS6227AWholeRow.stops := by kernel_rfl
theorem stopKnobs : Ybaf.pinned.checked.prog.stopKnobs = [] := by kernel_rfl
theorem quiet (os : Os) : Stop.quiet Ybaf.pinned.checked.prog os := by
  intro k hk
  rw [stopKnobs] at hk
  cases hk

theorem bytes30 : Ybaf.prog.bytesOf 30 = 8 := by kernel_rfl
theorem len_of {H : Type} {enc : TypeId × Value → H} {W : World} {fuel : Nat} {a : Option Addr} {n cap : Nat} {x : DataW H × List MemPlace} (h : DataW.trod enc Ybaf.prog W 0 (fun _ => true) true fuel 22 [.slice a n cap] = some x) :
    n = 0 ∨ ∃ elems spare, x.1 = .slice elems spare ∧ elems.length = n := by
  rcases Go.Deep.open_slice Ybaf.underlying22 h with ⟨h0, _⟩ | ⟨a', len, cap', m, k, D, Pl, hcs, _, hl, hm, hmm, hx, hall⟩
  · simp at h0
    exact .inl h0.2.1
  · simp at hcs
    obtain ⟨rfl, rfl, rfl⟩ := hcs
    right
    rw [hx]
    exact ⟨_, _, rfl, by simp⟩
theorem len_le {ts : List TypeId} {H : Type} {ds : List (DataW H)} (hz : (DataW.weightsEach Ybaf.prog ts ds).all (· ≤ reachBytes) = true) {j n : Nat} {d : DataW H} (ht : ts[j]? = some 22) (hd : ds[j]? = some d) (h : n = 0 ∨ ∃ elems spare, d = .slice elems spare ∧ elems.length = n) : n ≤ 281474976710656 := by
  rcases h with h | ⟨el, sp, rfl, hl⟩
  · omega
  · have := sized_slice hz ht hd Ybaf.underlying22
    rw [bytes30, hl] at this
    unfold reachBytes at this
    omega
set_option maxRecDepth 100000 in
theorem lifted (os : Os) (started : os.Started) (H : Type) (enc : TypeId × Value → H) :
    ReturnsInTold none {} Ybaf.checked os 3 .any Input.okWide ((OpenSpec.ofChange Rows.lawS6227AWholeSpec).preRow enc Ybaf.prog Ybaf.f3 [] false Rows.lawS6227AWholeRow.laid)
      (fun F => ((OpenSpec.ofChange Rows.lawS6227AWholeSpec).at F).post enc Ybaf.prog Ybaf.f3 false true false false) (aloneAtReturn Ybaf.prog) nothingAlways := by
  refine returnsInTold_of_row (C := Ybaf.checked) (s := OpenSpec.ofChange Rows.lawS6227AWholeSpec) (by kernel_rfl) own started (by kernel_rfl) Ybaf.func3
    (OpenSpec.witness_stopped (enc := enc) (C := Ybaf.checked) false ⟨#[], #[.slice none 0 0, .slice none 0 0], []⟩ 8 (by kernel_rfl) (by kernel_rfl) (by kernel_rfl) (by kernel_rfl)) ?_
  intro F W base args ds gs before _ hF hval0 hW _ _ hz _ _
  have hval : ∀ (j : Nat) t v, Ybaf.f3.params[j]? = some t → args[j]? = some v → Value.okWide Ybaf.prog W .any base t v := hval0
  have hW' := hW
  obtain ⟨p, q, hA0, hV, rfl, hfz, hnd⟩ := hW
  have hA : DataW.TrodAll enc Ybaf.prog W 0 (fun _ => true) true Ybaf.f3.params.toList args.toList ds p := hA0
  have hts : (Ybaf.f3.params.toList ++ (OpenSpec.ofChange Rows.lawS6227AWholeSpec).bare.plain.varTypes Ybaf.prog) = [22, 22] := by kernel_rfl
  rw [show Ybaf.checked.prog = Ybaf.prog from rfl, hts] at hz
  rw [Ybaf.params3] at hA hval
  obtain ⟨v0, vs0, d0, ds0, p0, q0, hargs, rfl, rfl, h0, r0⟩ := trodAll_cons hA
  obtain ⟨v1, vs1, d1, ds1, p1, q1, rfl, rfl, rfl, h1, r1⟩ := trodAll_cons r0
  obtain ⟨rfl, rfl, rfl⟩ := trodAll_nil r1
  obtain rfl : args = #[v0, v1] := by cases args; simp_all
  obtain ⟨rfl, rfl⟩ := trodVars_none hV
  obtain ⟨a0, len0, cap0, rfl⟩ := okWide_slice Ybaf.underlying22 (hval 0 22 v0 rfl rfl)
  obtain ⟨a1, len1, cap1, rfl⟩ := okWide_slice Ybaf.underlying22 (hval 1 22 v1 rfl rfl)
  have k0 := h0
  have k1 := h1
  have lt0 : ∀ x ∈ p0, x.block < W.heap.size := by obtain ⟨m, hm⟩ := k0; exact DataW.trod_lt m _ _ _ hm
  have lt1 : ∀ x ∈ p1, x.block < W.heap.size := by obtain ⟨m, hm⟩ := k1; exact DataW.trod_lt m _ _ _ hm
  obtain ⟨hl0, _, vv0, hov0⟩ : len0 ≤ 281474976710656 ∧ len0 ≤ cap0 ∧ ∃ vv, OV W a0 len0 vv := by obtain ⟨fuel, hf⟩ := h0; exact ⟨len_le hz (j := 0) rfl rfl (len_of hf), ids_of hf⟩
  obtain ⟨hl1, _, vv1, hov1⟩ : len1 ≤ 281474976710656 ∧ len1 ≤ cap1 ∧ ∃ vv, OV W a1 len1 vv := by obtain ⟨fuel, hf⟩ := h1; exact ⟨len_le hz (j := 1) rfl rfl (len_of hf), ids_of hf⟩
  clear hA0 hval0
  simp only [List.append_nil] at hW'
  refine (lawA_calls a0 a1 len0 cap0 len1 cap1 vv0 vv1 W hov0 hov1 hl0 hl1).mono fun e W' ⟨he, bel⟩ => ?_
  subst he
  exact ⟨_, rfl, _, _, _, [], _, _, hW', trodAll_mk1 (shut_bool Ybaf.underlying4 _), (trodAll_cons_mk (Below.trod laidOut (by kernel_rfl) (of_decide_eq_true (by kernel_rfl)) k0 bel lt0) (trodAll_cons_mk (Below.trod laidOut (by kernel_rfl) (of_decide_eq_true (by kernel_rfl)) k1 bel lt1) trodAll_mk0)), rfl, bel.frame _, fun h => by cases h⟩

/-- ████ THE STATEMENT ████ -/
theorem proved : Rows.LawS6227AWholeToldSaid :=
  Claim7.holds_of_told_any 3 Ybaf.f3 _ _ [] _ _ _ (by kernel_rfl) rfl rfl rfl laidOut (by kernel_rfl) rfl ⟨rfl, rfl, rfl, rfl, rfl, rfl, rfl⟩ rfl rfl (by kernel_rfl) (by kernel_rfl) Ybaf.func3 (by kernel_rfl)
    (of_decide_eq_true (by kernel_rfl)) (of_decide_eq_true (by kernel_rfl)) stops.symm rfl stopKnobs.symm (by kernel_rfl)
    (by kernel_rfl) (by kernel_rfl) (by kernel_rfl) (by kernel_rfl) (by kernel_rfl) (by kernel_rfl) (by kernel_rfl) (by kernel_rfl) (by kernel_rfl) rfl (by kernel_rfl) rfl rfl
    rfl rfl
    rfl (by kernel_rfl) (by kernel_rfl) (by kernel_rfl) (by decide) (by kernel_rfl)
    (OpenClaim.moreEntering_of (by kernel_rfl) (by kernel_rfl) (by kernel_rfl) (by kernel_rfl) (by kernel_rfl) (by kernel_rfl) (by kernel_rfl) (by kernel_rfl) (by kernel_rfl) (by kernel_rfl))
    ⟨_, WideRow.started_initial, quiet _⟩
    (fun os started _ H enc _ => lifted os started H enc)
end Go.Proofs.YbulkdxyaFmt.lawS6227AWhole
