/- A region that draws its order, walked by what each operation keeps: whatever order, no branching. -/
import Derived.Test.YbulkdxyaFmtLeaf
import Derived.Orders
import Derived.RegionTactic
namespace Go.Proofs.YbulkdxyaFmt
open Go.RowKit
set_option linter.unusedSimpArgs false
set_option linter.unusedVariables false

/-- How many have not come up yet. -/
def open_ (listed : Array Bool) : Nat := listed.toList.countP (fun b => !b)
def lst (listed : Array Bool) (j : Nat) : Bool := listed.getD j false
theorem lst_set {listed : Array Bool} {i : Nat} (hi : i < listed.size) (j : Nat) : lst (listed.setIfInBounds i true) j = if j = i then true else lst listed j := by
  unfold lst
  by_cases h : j = i
  · subst h; simp [hi]
  · simp only [h, if_false, Array.getD_eq_getD_getElem?]
    rw [Array.getElem?_setIfInBounds_ne (by omega)]
theorem countP_set : ∀ (l : List Bool) (i : Nat), l[i]? = some false → (l.set i true).countP (fun b => !b) + 1 = l.countP (fun b => !b)
  | [], i, h => by simp at h
  | b :: l, 0, h => by
    simp at h
    subst h
    simp [List.countP_cons]
  | b :: l, i + 1, h => by
    simp at h
    have := countP_set l i h
    simp only [List.set_cons_succ, List.countP_cons]
    omega
theorem open_set {listed : Array Bool} {i : Nat} (h : listed[i]? = some false) : open_ (listed.setIfInBounds i true) + 1 = open_ listed := by
  unfold open_
  rw [Array.toList_setIfInBounds]
  exact countP_set _ i (by simpa using h)
theorem ready_mem {md : Region.Mode} {ops : Array Oper} {listed : Array Bool} (hs : listed.size = ops.size) {i : Nat} (h : i ∈ Region.ready md ops listed) :
    ∃ o, ops[i]? = some o ∧ i < ops.size ∧ listed[i]? = some false ∧ ∀ e ∈ o.after, Region.binds md e = true → lst listed e.on = true := by
  unfold Region.ready at h
  simp only [List.mem_filter, List.mem_range, Bool.and_eq_true, Bool.not_eq_true'] at h
  obtain ⟨hi, h1, h2⟩ := h
  have ho : ops[i]? = some ops[i] := Array.getElem?_eq_getElem hi
  refine ⟨ops[i], ho, hi, ?_, fun e he hb => ?_⟩
  · have hl : i < listed.size := by omega
    simp only [Array.getD_eq_getD_getElem?, Array.getElem?_eq_getElem hl, Option.getD_some] at h1
    rw [Array.getElem?_eq_getElem hl, h1]
  · rw [ho] at h2
    simp only [Option.map_some, Option.getD_some, Array.all_eq_true_iff_forall_mem] at h2
    have := h2 e (by simpa using he)
    simp only [hb, Bool.not_true, Bool.false_or] at this
    exact this
theorem ready_nil {md : Region.Mode} {ops : Array Oper} {listed : Array Bool} (hs : listed.size = ops.size) (hac : ∀ (i : Nat) (o : Oper), ops[i]? = some o → ∀ e ∈ o.after, e.on < i) (h : Region.ready md ops listed = []) : ∀ i, i < ops.size → lst listed i = true := by
  intro i
  induction i using Nat.strongRecOn with
  | ind i ih =>
    intro hi
    rcases hl : lst listed i with _ | _
    · exfalso
      have hm : i ∈ Region.ready md ops listed := by
        unfold Region.ready
        have hl2 : i < listed.size := by omega
        simp only [List.mem_filter, List.mem_range, Bool.and_eq_true, Bool.not_eq_true']
        refine ⟨hi, ?_, ?_⟩
        · unfold lst at hl
          simp only [Array.getD_eq_getD_getElem?, Array.getElem?_eq_getElem hl2, Option.getD_some] at hl ⊢
          exact hl
        · have ho : ops[i]? = some ops[i] := Array.getElem?_eq_getElem hi
          rw [ho]
          simp only [Option.map_some, Option.getD_some, Array.all_eq_true_iff_forall_mem]
          intro e he
          have hlt := hac i _ ho e (by simpa using he)
          have := ih e.on hlt (by omega)
          unfold lst at this
          rw [this]
          simp
      rw [h] at hm
      cases hm
    · rfl

theorem wpAny_inv {P : Program} {md : Region.Mode} {ops : Array Oper} {Q : Exit → Act → World → Prop} (I : (Nat → Bool) → Act → World → Prop) (hac : ∀ (i : Nat) (o : Oper), ops[i]? = some o → ∀ e ∈ o.after, e.on < i)
    (hstep : ∀ (i : Nat) (o : Oper), ops[i]? = some o → ∀ (L : Nat → Bool) (a : Act) (w : World), I L a w → (∀ e ∈ o.after, Region.binds md e = true → L e.on = true) → ∀ K' : Act → World → Prop, (∀ a' w', I (fun j => if j = i then true else L j) a' w' → K' a' w') →
      if Region.wanted o (yielded ops a.tmps) = true then Oper.wp P o a w K' Q else K' (a.put o.dst undef) w)
    (hdone : ∀ (L : Nat → Bool) (a : Act) (w : World), I L a w → (∀ i, i < ops.size → L i = true) → Q .normal a w) :
    ∀ (fuel : Nat) (listed : Array Bool) (a : Act) (w : World), listed.size = ops.size → open_ listed ≤ fuel → I (lst listed) a w → wpAny P md ops Q fuel listed a w
  | 0, listed, a, w, hs, hf, hI => by
    have hr : Region.ready md ops listed = [] := by
      rcases hq : Region.ready md ops listed with _ | ⟨i, l⟩
      · rfl
      · obtain ⟨o, _, _, h1, _⟩ := ready_mem (md := md) hs (i := i) (by rw [hq]; simp)
        have := open_set h1
        omega
    exact ⟨hr, hdone _ a w hI (ready_nil hs hac hr)⟩
  | fuel + 1, listed, a, w, hs, hf, hI => by
    refine ⟨fun hr => hdone _ a w hI (ready_nil hs hac hr), fun i hi => ?_⟩
    obtain ⟨o, ho, hlt, h1, h2⟩ := ready_mem hs hi
    have h3 := open_set h1
    refine wpOp_step ho (fun K' hK => hstep i o ho (lst listed) a w hI h2 K' (fun a' w' hI' => hK a' w' ?_))
    refine wpAny_inv I hac hstep hdone fuel _ a' w' (by simpa using hs) (by omega) ?_
    have e : lst (listed.setIfInBounds i true) = fun j => if j = i then true else lst listed j := by
      funext j
      exact lst_set (by omega) j
    rw [e]
    exact hI'
theorem open_new (n : Nat) : open_ (Array.replicate n false) = n := by
  unfold open_
  simp [List.countP_replicate]
theorem wp_region_inv {P : Program} {ops : Array Oper} {Q : Exit → Act → World → Prop} {id : Nat} {a : Act} {w : World} (hm : P.follows .mixedOrders = true) (I : (Nat → Bool) → Act → World → Prop) (hac : ∀ (i : Nat) (o : Oper), ops[i]? = some o → ∀ e ∈ o.after, e.on < i)
    (h0 : I (fun _ => false) a w.drew)
    (hstep : ∀ (i : Nat) (o : Oper), ops[i]? = some o → ∀ (L : Nat → Bool) (a : Act) (w : World), I L a w → (∀ e ∈ o.after, Region.binds .any e = true → L e.on = true) → ∀ K' : Act → World → Prop, (∀ a' w', I (fun j => if j = i then true else L j) a' w' → K' a' w') →
      if Region.wanted o (yielded ops a.tmps) = true then Oper.wp P o a w K' Q else K' (a.put o.dst undef) w)
    (hdone : ∀ (L : Nat → Bool) (a : Act) (w : World), I L a w → (∀ i, i < ops.size → L i = true) → Q .normal a w) : (Code.region id ops true).wp P Q a w := by
  refine wp_region_any hm ?_
  refine wpAny_inv I hac hstep hdone ops.size _ a _ (by simp) (by rw [open_new]; exact Nat.le_refl _) ?_
  have e : lst (Array.replicate ops.size false) = fun _ => false := by
    funext j
    unfold lst
    rw [Array.getD_eq_getD_getElem?]
    by_cases h : j < ops.size
    · simp [h]
    · simp [h]
  rw [e]
  exact h0
end Go.Proofs.YbulkdxyaFmt
