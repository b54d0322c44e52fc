/- zzs6227cdead, slices.Equal and slices.Clone at ID: by contract. -/
import Derived.Test.YbulkdxyaFmtOwners
namespace Go.Proofs.YbulkdxyaFmt
open Go.RowKit
set_option linter.unusedSimpArgs false
set_option linter.unusedVariables false

def bt (mask : Int) (j : Nat) : Bool := bits BinOp.and IntKind.u64 (mask / 2 ^ j) 1 == 1
/-- Who is marked dead by the first j bits. -/
def SD (id : Int) (sd : Bool) (vv : Nat → Int) (mask : Int) : Nat → Int → Bool
  | 0, x => sd && x == id
  | j + 1, x => SD id sd vv mask j x || (bt mask j && x == vv j)
theorem SD.mono {id : Int} {sd : Bool} {vv : Nat → Int} {mask x : Int} {j : Nat} (h : SD id sd vv mask j x = true) : ∀ k, j ≤ k → SD id sd vv mask k x = true := fun k hk => by
  induction k with
  | zero => obtain rfl : j = 0 := by omega
            exact h
  | succ k ih =>
    by_cases hjk : j ≤ k
    · rw [SD, ih hjk, Bool.true_or]
    · obtain rfl : j = k + 1 := by omega
      exact h

set_option maxRecDepth 100000 in
set_option maxHeartbeats 4000000 in
theorem dead_calls (x id mask : Int) (sd : Bool) (vp : Option Addr) (n c : Nat) (vv : Nat → Int) (w : World) (hv : OV w vp n vv) (hn : n ≤ 1000000) :
    Calls Ybaf.prog 14 #[.int .u64 x, .int .u64 id, .bool sd, .slice vp n c, .int .u64 mask] w fun e w' => e = .returned (.bool (SD id sd vv mask (min n 64) x)) ∧ w = w' := by
  have HV : Hid (OV w vp n vv) := hv
  generalize hz : SD id sd vv mask (min n 64) x = z
  have HZ : Hid (SD id sd vv mask (min n 64) x = z) := hz
  clear hv hz
  go_enter Ybaf.func14, Ybaf.ntmps14
  rcases hq : (sd && x == id) with _ | _
  · have HQ : Hid (SD id sd vv mask 0 x = false) := hq
    have hh : sd = false ∨ (sd = true ∧ (x == id) = false) := by cases sd <;> simp_all
    clear hq
    rcases hh with rfl | ⟨rfl, hxi⟩
    all_goals
      go_upto_block 0 with fail
      go_wp2_with fail
      go_loopg [11] n (fun g i wr => ∃ j : Nat, g = n - j ∧ j ≤ n ∧ j ≤ 64 ∧ i = .int .i64 j ∧ Hid (SD id _ vv mask j x = false) ∧ w = wr)
      case atStart => exact ⟨0, rfl, by omega, by omega, rfl, HQ, rfl⟩
      case round =>
        clear HQ
        obtain ⟨j, rfl, hj, hj64, rfl, HJ, rfl⟩ := hrel
        by_cases h1 : j < n
        · obtain ⟨ad, hvp, hcell⟩ := HV.out (by omega)
          subst hvp
          have d := hcell j h1
          have hcl : ∀ k, (SD id _ vv mask k x = true → k ≤ min n 64 → z = true) := fun k hk hle => HZ.out.symm.trans (SD.mono hk _ hle)
          clear hcell
          by_cases h2 : j < 64
          · have HC : Hid ((bt mask j && x == vv j) = true → z = true) := fun hb => hcl (j + 1) (by rw [SD, hb, Bool.or_true]) (by omega)
            clear hcl
            have hS : Hid ((bt mask j && x == vv j) = false → SD id _ vv mask (j + 1) x = false) := fun hb => by rw [SD, hb, HJ.out]; rfl
            rcases hb : bt mask j with _ | _
            · have HB : Hid (bt mask j = false) := hb
              have hb' : (bits BinOp.and IntKind.u64 (mask / 2 ^ j) 1 == 1) = false := hb
              clear hb
              go_wp2_with fail
              go_roundg (n - (j + 1))
              case measure => omega
              case rel => exact ⟨j + 1, rfl, by omega, by omega, by go_num, hS.out (by rw [HB.out]; rfl), rfl⟩
            · have HB : Hid (bt mask j = true) := hb
              have hb' : (bits BinOp.and IntKind.u64 (mask / 2 ^ j) 1 == 1) = true := hb
              clear hb
              rcases he : (vv j == x) with _ | _
              · have HE : Hid ((x == vv j) = false) := by simp only [beq_eq_false_iff_ne] at he; exact beq_eq_false_iff_ne.2 (fun q => he q.symm)
                go_wp2_with fail
                go_roundg (n - (j + 1))
                case measure => omega
                case rel => exact ⟨j + 1, rfl, by omega, by omega, by go_num, hS.out (by rw [HB.out, HE.out]; rfl), rfl⟩
              · have HE : Hid ((x == vv j) = true) := by simp only [beq_iff_eq] at he; exact beq_iff_eq.2 he.symm
                have hzt : z = true := HC.out (by rw [HB.out, HE.out]; rfl)
                subst hzt
                go_wp2_with fail
                go_ret
                exact ⟨rfl, rfl⟩
          · obtain rfl : j = 64 := by omega
            have hzf : z = false := by rw [← HZ.out, show min n 64 = 64 by omega]; exact HJ.out
            subst hzf
            go_wp2_with fail
            go_ret
            exact ⟨rfl, rfl⟩
        · obtain rfl : j = n := by omega
          have hzf : z = false := by rw [← HZ.out, show min j 64 = j by omega]; exact HJ.out
          subst hzf
          go_wp2_with fail
          go_ret
          exact ⟨rfl, rfl⟩
  · obtain ⟨h1, h2⟩ := (Bool.and_eq_true_iff).1 hq
    subst h1
    have hzt : z = true := HZ.out.symm.trans (SD.mono (j := 0) hq _ (by omega))
    subst hzt
    clear hq
    go_wp2_with fail
    go_ret
    exact ⟨rfl, rfl⟩

set_option maxRecDepth 100000 in
set_option maxHeartbeats 4000000 in
theorem equal_calls (p p' : Option Addr) (n c c' : Nat) (vv : Nat → Int) (w : World) (hv : OV w p n vv) (hv' : OV w p' n vv) (hn : n ≤ 1000000) :
    Calls Ybaf.prog 11 #[.slice p n c, .slice p' n c'] w fun e w' => e = .returned (.bool true) ∧ Below w.heap.size w w' := by
  have HV : Hid (OV w p n vv) := hv
  have HV' : Hid (OV w p' n vv) := hv'
  clear hv hv'
  go_enter Ybaf.func11, Ybaf.ntmps11
  go_upto_block 0 with fail
  go_wp2_with fail
  go_loopg [5, 13] n (fun g x i wr => ∃ j : Nat, g = n - j ∧ j ≤ n ∧ i = .int .i64 j ∧ Hid (Below w.heap.size w wr))
  case atStart => exact ⟨0, rfl, by omega, rfl, Below.refl _ _⟩
  case round =>
    obtain ⟨j, rfl, hj, rfl, HB⟩ := hrel
    by_cases h1 : j < n
    · obtain ⟨ad, hvp, hcell⟩ := HV.out.keep HB.out (by omega)
      obtain ⟨ad', hvp', hcell'⟩ := HV'.out.keep HB.out (by omega)
      subst hvp hvp'
      have d := hcell j h1
      have d' := hcell' j h1
      clear hcell hcell'
      go_upto_region 6 with fail
      go_quiet (fail)
      go_wp2_with fail
      go_roundg (n - (j + 1))
      case measure => omega
      case rel => exact ⟨j + 1, rfl, by omega, by go_num, below_drewN HB.out _⟩
    · obtain rfl : j = n := by omega
      go_wp2_with fail
      go_ret
      exact ⟨rfl, HB.out⟩

theorem own_ov {w : World} {B n : Nat} {v : Value} {vv : Nat → Int} (h : w.ownsRow B 50 1 v n ((List.range n).map fun i => .int .u64 (vv i))) : ∃ p cap, v = .slice p n cap ∧ OV w p n vv ∧ ∀ ad, p = some ad → B ≤ ad.block := by
  obtain ⟨h1, h2⟩ := h
  rcases h2 with ⟨rfl, rfl⟩ | ⟨g, cap, cur, rfl, hB, h3, h4, h5, h6, h7⟩
  · exact ⟨none, 0, rfl, fun q => absurd q (by omega), fun ad q => by cases q⟩
  · refine ⟨_, cap, rfl, fun _ => ⟨_, rfl, fun i hi => ?_⟩, fun ad q => by cases q; exact hB⟩
    have ha : (⟨g, 0, none⟩ : Addr).add i = ⟨g, i, none⟩ := by simp [Addr.add]; exact fun e => e.symm
    rw [ha]
    refine cell_of h3 ?_
    have := congrArg (fun l => l[i]?) h7
    simp [List.getElem?_take, hi] at this
    exact this

set_option maxRecDepth 100000 in
set_option maxHeartbeats 4000000 in
theorem clone_calls (ad : Addr) (n c : Nat) (vv : Nat → Int) (w : World) (hv : OV w (some ad) n vv) (hn : n ≤ 1000000) :
    Calls Ybaf.prog 9 #[.slice (some ad) n c] w fun e w' => ∃ p cap, e = .returned (.slice p n cap) ∧ OV w' p n vv ∧ (∀ a, p = some a → w.heap.size ≤ a.block) ∧ Below w.heap.size w w' := by
  have HV : Hid (OV w (some ad) n vv) := hv
  obtain ⟨i50, hi50, hz0, hz1, hz2⟩ := info_parts inf50'
  clear hv
  have q0 : ∀ w : World, (binOp BinOp.eql 43 (.slice (some ad) n c) (.slice none 0 0)).run Ybaf.prog w = .ok (.bool false) w := fun w => by kernel_rfl
  go_enter Ybaf.func9, Ybaf.ntmps9
  by_cases h0 : n = 0
  · subst h0
    go_wp2_with fail
    go_ret
    refine ⟨_, ⟨_, rfl⟩, fun q => absurd q (by omega), fun a q => by cases q; exact Nat.le_refl _, (Below.refl _ _).alloc (Nat.le_refl _) _⟩
  · have hcell : ∀ i, i < n → w.cell? (ad.add i) = some (.int .u64 (vv i)) ∧ ad.block < w.heap.size := fun i hi => by
      obtain ⟨ad', e, h⟩ := HV.out (by omega)
      cases e
      exact ⟨h i hi, by have := lt_of_cell (h i hi); rwa [add_block] at this⟩
    have HC : Hid (∀ j u, ((List.range n).map fun i => Value.int .u64 (vv i))[j]? = some u → (w.alloc (.cells #[] 50)).cell? (ad.add j) = some u) := fun j u hu => by
      have hj : j < n := by
        have := (List.getElem?_eq_some_iff.1 hu).1
        simpa using this
      simp [List.getElem?_range hj] at hu
      rw [← hu]
      exact (((Below.refl w.heap.size w).alloc (Nat.le_refl _) _).cell (p := ad.add j) (by rw [add_block]; exact (hcell j hj).2)).trans (hcell j hj).1
    have HO : Hid (∀ u ∈ ((List.range n).map fun i => Value.int .u64 (vv i)), u.oneCell' = true) := fun u hu => by
      simp at hu
      obtain ⟨a, _, rfl⟩ := hu
      rfl
    clear hcell
    go_wp2_with (at_builtin; go_must (refine wpList_append_grows _ rfl (.tmp 5) (.tmp 6) 43 rfl 50 i50 (.int .u64 0) 1 8 Ybaf.underlying43 hi50 hz0 hz1 hz2 rfl (by decide) (some ⟨w.heap.size, 0, none⟩) 0 0 [] rfl (fun e => by cases e) rfl (fun b _ j u hu => by simp at hu) ad n c ((List.range n).map fun i => .int .u64 (vv i)) rfl (by simp) HC.out HO.out (by omega) (by unfold maxLen; omega) (by omega) ?_); intro v' w2 hown hgrow; have HG : Hid (w2.ownsRow (w.heap.size + 1) 50 1 v' n ((List.range n).map fun i => .int .u64 (vv i)) ∧ (w.alloc (.cells #[] 50)).grownBy w2 none) := ⟨by simpa using hown, hgrow⟩; clear hown hgrow)
    obtain ⟨p, cap, rfl, h1, h2⟩ := own_ov HG.out.1
    go_ret
    have hg := HG.out.2
    refine ⟨p, ⟨cap, rfl⟩, h1, fun a q => by have := h2 a q; omega, ((Below.refl _ _).alloc (Nat.le_refl _) (.cells #[] 50)).trans ?_⟩
    exact ⟨hg.os, hg.tape, hg.output, hg.size, fun k hk => hg.block k (by simp; omega) (by simp)⟩
end Go.Proofs.YbulkdxyaFmt
