/- The law's own reader: its Read, by contract. -/
import Derived.Test.YbulkdxzcDoorRows
import Derived.WalkKit
import Derived.WalkSpells
import Derived.WalkLawsBesides
import Derived.OpenShut
import Derived.Deep.OwnRows
import Derived.Deep.DeepCutAuto
import Derived.Deep.CutBlock
import Derived.BigQuiet
import Derived.Deep.QuietTactic
import Derived.Deep.RegionLawGrows
import Derived.Laws.CopyOwn
namespace Go.Proofs.YbulkdxzcDoor
open Go.RowKit
set_option linter.unusedSimpArgs false
set_option linter.unusedVariables false

/-- What the walk is told of a slice of integers that came in. -/
def IsRow (k : IntKind) (w : World) (a : Option Addr) (len cap : Nat) (zs : List Int) : Prop :=
  (a = none ∧ len = 0 ∧ cap = 0 ∧ zs = []) ∨
  ∃ x, a = some x ∧ len ≤ cap ∧ cap ≤ maxLen ∧ zs.length = cap ∧ (∀ i, i < zs.length → w.cell? (x.add i) = some (.int k (zs.getD i 0))) ∧ ∀ n ∈ zs, (Lit.int k n).wf = true
theorem lt_of_cell {w : World} {a : Addr} {v : Value} (h : w.cell? a = some v) : a.block < w.heap.size := by
  rcases Nat.lt_or_ge a.block w.heap.size with h' | h'
  · exact h'
  · simp [World.cell?, Array.getElem?_eq_none h'] at h
theorem cell_of {w : World} {b i : Nat} {c : Array Value} {t : TypeId} {v : Value} (hb : w.heap[b]? = some (.cells c t (0, 0))) (hc : c[i]? = some v) : w.cell? ⟨b, i, .none⟩ = some v := by
  simp [World.cell?, hb, hc]
theorem frozen_of {w : World} {b : Nat} {c : Array Value} {t : TypeId} (hb : w.heap[b]? = some (.cells c t (0, 0))) (i : Nat) : w.frozen? ⟨b, i, .none⟩ = false := by
  simp [World.frozen?, hb]
/-- An element, behind a name. -/
def sgOf (z : List Int) (j : Nat) : Int := z.getD j 0

/-- What is known of the data that came in: nil and empty, or cells at an address. -/
def Data (w : World) (a : Option Addr) (n cap : Nat) (dv : Nat → Int) (B : Nat) : Prop :=
  n ≤ cap ∧ cap ≤ maxLen ∧ (0 < n → ∃ b off, a = some ⟨b, off, none⟩ ∧ b < B ∧ ∀ i, i < n → w.cell? ⟨b, off + i, none⟩ = some (.int .u8 (dv i)))

/-- copy, as one step of a region that draws: the row behind it, all else as it was. -/
theorem step_copy_row {P : Program} {ops : Array Oper} {o : Oper} {a : Act} {w : World} {K : Act → World → Prop} {Q : Exit → Act → World → Prop} {E : Prop} (hgd : o.guard = none) (d s : Operand) (dT sT : TypeId)
    (ho : o.op = .call { callee := .builtin .copy, args := #[d, s], argTypes := #[dT, sT] }) (elem : TypeId) (hu : P.underlying dT = some (.slice elem)) (hsz : (P.info? elem).map (·.size) = some 1)
    (dp sp : Option Addr) (dLen dCap sLen sCap : Nat) (hd : a.eval d = .slice dp dLen dCap) (hs : a.eval s = .slice sp sLen sCap)
    (g off : Nat) (cur : List Value) (t : TypeId) (hg : w.heap[g]? = some (.cells cur.toArray t (0, 0))) (cs : List Value) (hn : cs.length = Nat.min sLen dLen)
    (hpos : 0 < cs.length → dp = some ⟨g, off, none⟩ ∧ ∃ ad, sp = some ad ∧ ∀ j v, cs[j]? = some v → w.cell? (ad.add j) = some v)
    (hfit : off + cs.length ≤ cur.length) (h1 : ∀ v ∈ cs, v.oneCell' = true)
    (h : ∀ w', Hid (w'.heap[g]? = some (.cells (splice cur off cs).toArray t (0, 0))) → Hid (∀ k, k ≠ g → w'.heap[k]? = w.heap[k]?) → Hid (w'.heap.size = w.heap.size) → Hid (∀ B, B ≤ g → Below B w w') → K (a.put o.dst (goInt cs.length)) w') :
    if Region.wanted o (yielded ops a.tmps) = true then Oper.wp P o a w K Q else E := by
  have hw : Region.wanted o (yielded ops a.tmps) = true := by simp [Region.wanted, hgd]
  rw [if_pos hw]
  by_cases h0 : cs.length = 0
  · obtain rfl : cs = [] := List.eq_nil_of_length_eq_zero h0
    have hrun := run_copy_none (P := P) w dT sT o.type elem dp sp dLen dCap sLen sCap hu hsz (by simpa using hn.symm)
    unfold Oper.wp
    simp [execOp, ho, resolve, invoke, builtin, hd, hs, hrun, Result.andThen]
    exact h w (show _ = _ by simpa [splice] using hg) (fun _ _ => rfl) rfl (fun _ _ => Below.refl _ _)
  · obtain ⟨rfl, ad, rfl, hsrc⟩ := hpos (by omega)
    have hrun := run_copy_row (P := P) w dT sT o.type elem g off dLen dCap ad sLen sCap cur.toArray t cs hu hsz hg hn hsrc (by simpa using hfit) h1
    unfold Oper.wp
    simp [execOp, ho, resolve, invoke, builtin, hd, hs, hrun, Result.andThen]
    exact h _ (show _ = _ by simpa [splice] using setRow_heap w g _ _ t _ hg) (fun k hk => setRow_other w g k _ hk) (by show _ = _; simp [World.setRow]) (fun B hB => below_setRow (Below.refl _ _) hB _)

/-- Behind a copy of cs into block g at off. -/
structure Copied (g off : Nat) (cur cs : List Value) (w w' : World) : Prop where
  row : w'.heap[g]? = some (.cells (splice cur off cs).toArray 5 (0, 0))
  other : ∀ k, k ≠ g → w'.heap[k]? = w.heap[k]?
  size : w'.heap.size = w.heap.size
  below : ∀ B, B ≤ g → Below B w w'

/-- Behind one Read of m bytes. -/
structure Rd (R g off : Nat) (cur cs : List Value) (rc : Array Value) (w w' : World) : Prop where
  row : w'.heap[g]? = some (.cells (splice cur off cs).toArray 5 (0, 0))
  rd : w'.heap[R]? = some (.cells rc 29 (0, 0))
  other : ∀ k, k ≠ g → k ≠ R → w'.heap[k]? = w.heap[k]?
  size : w'.heap.size = w.heap.size
  below : ∀ B, B ≤ g → B ≤ R → Below B w w'

/-- The error that Read hands back. -/
def rerr (n k m : Nat) (fail wd : Bool) (err eof : Value) : Value :=
  if k + m = n then (if 0 < m ∧ wd = false then .nilIface else if fail = true then err else eof) else .nilIface
/-- The bytes from k on, m of them. -/
def seg (dv : Nat → Int) (k m : Nat) : List Value := (List.range m).map fun j => Value.int .u8 (dv (k + j))
theorem length_seg (dv : Nat → Int) (k m : Nat) : (seg dv k m).length = m := by simp [seg]

theorem rd_of {R g off : Nat} {cur cs : List Value} {x0 x1 x2 x3 x4 x5 y : Value} {w wc : World} (h : Copied g off cur cs w wc) (hRg : R ≠ g) (hR : wc.heap[R]? = some (.cells #[x0, x1, x2, x3, x4, x5] 29 (0, 0))) (q : Nat) :
    Rd R g off cur cs #[x0, y, x2, x3, x4, x5] w ((wc.setCell ⟨R, 1, none⟩ y).drewN q) := by
  have ho : ∀ k, k ≠ R → (wc.setCell ⟨R, 1, none⟩ y).heap[k]? = wc.heap[k]? := fun k hk => Below.heap_setCell _ _ _ _ hk
  refine ⟨(ho g (Ne.symm hRg)).trans h.row, ?_, fun k h1 h2 => (ho k h2).trans (h.other k h1), ?_, fun B b1 b2 => below_drewN ((h.below B b1).setCell (p := ⟨R, 1, none⟩) b2 y) q⟩
  · have := heap_setCell_same wc R 1 _ 29 y hR
    exact this
  · show (wc.setCell ⟨R, 1, none⟩ y).heap.size = _
    rw [World.size_setCell, h.size]

theorem Rd.drewN {R g off : Nat} {cur cs : List Value} {rc : Array Value} {w w' : World} (h : Rd R g off cur cs rc w w') (q : Nat) : Rd R g off cur cs rc w (w'.drewN q) :=
  ⟨h.row, h.rd, h.other, h.size, fun B b1 b2 => below_drewN (h.below B b1 b2) q⟩

/-- How many bytes one Read hands out. -/
def took (s n k L : Nat) : Nat := min (min s (n - k)) L

set_option maxRecDepth 100000 in
set_option maxHeartbeats 2000000 in
theorem read (R g off L Lc cap0 n k s : Nat) (a0 : Option Addr) (dv : Nat → Int) (fail wd : Bool) (err : Value) (cur : List Value) (w : World) (B : Nat)
    (hk : k ≤ n) (hn : n ≤ 1048576) (hs : 1 ≤ s ∧ s ≤ 16) (hL : L ≤ 9223372036854775807) (hD : Data w a0 n cap0 dv B) (hBR : B ≤ R) (hBg : B ≤ g) (hRg : R ≠ g)
    (hR : w.heap[R]? = some (.cells #[.slice a0 n cap0, .int .i64 k, .int .i64 s, .bool fail, .bool wd, err] 29 (0, 0)))
    (hg : w.heap[g]? = some (.cells cur.toArray 5 (0, 0))) (hfit : off + L ≤ cur.length)
    (eof : Value) (he : w.cell? ⟨0, 0, none⟩ = some eof) (hg0 : 0 ≠ g) (hR0 : 0 ≠ R) :
    Calls Ybad.prog 24 #[.pointer (some ⟨R, 0, none⟩), .slice (some ⟨g, off, none⟩) L Lc] w fun e w' => e = .returned (.tuple #[.int .i64 (took s n k L : Nat), rerr n k (took s n k L) fail wd err eof]) ∧
      Rd R g off cur (seg dv k (took s n k L)) #[.slice a0 n cap0, .int .i64 (k + took s n k L : Nat), .int .i64 s, .bool fail, .bool wd, err] w w' := by
  have c0 := cell_of (i := 0) hR rfl
  have c1 := cell_of (i := 1) hR rfl
  have c2 := cell_of (i := 2) hR rfl
  have c3 := cell_of (i := 3) hR rfl
  have c4 := cell_of (i := 4) hR rfl
  have c5 := cell_of (i := 5) hR rfl
  have fR := frozen_of hR
  simp only [List.getElem_toArray, List.getElem_cons_zero, List.getElem_cons_succ] at c0 c1 c2 c3 c4 c5
  have HR : Hid _ := hR
  have HG : Hid _ := hg
  have HD : Hid (Data w a0 n cap0 dv B) := hD
  clear hR hg hD
  go_enter Ybad.func24, Ybad.ntmps24
  go_wp2_with fail
  go_quiet (fail)
  go_upto_if 24 with fail
  go_cut [7] (fun v wx => v = .int .i64 (min s (n - k) : Nat) ∧ wx = w.drewN nq)
  case first =>
    by_cases h : (n : Int) - (k : Int) < (s : Int)
    · go_wp2
      go_meet
      case rel => exact ⟨congrArg (Value.int .i64) (by omega), rfl⟩
    · go_wp2
      go_meet
      case rel => exact ⟨congrArg (Value.int .i64) (by omega), rfl⟩
  case rest =>
    obtain ⟨rfl, rfl⟩ := hcut
    obtain ⟨m1, hm1⟩ : ∃ m1 : Nat, m1 = min s (n - k) := ⟨_, rfl⟩
    rw [← hm1]
    have hm1s : m1 ≤ s := by omega
    have HM1 : Hid _ := hm1
    clear hm1
    go_upto_if 29 with fail
    go_cut [7] (fun v wx => v = .int .i64 (took s n k L : Nat) ∧ wx = w.drewN nq)
    case first =>
      by_cases h : (L : Int) < (m1 : Int)
      · go_wp2
        go_meet
        case rel => exact ⟨congrArg (Value.int .i64) (by have := HM1.out; unfold took; omega), rfl⟩
      · go_wp2
        go_meet
        case rel => exact ⟨congrArg (Value.int .i64) (by have := HM1.out; unfold took; omega), rfl⟩
    case rest =>
      obtain ⟨rfl, rfl⟩ := hcut
      clear HM1 hm1s
      obtain ⟨m, hm⟩ : ∃ m : Nat, m = took s n k L := ⟨_, rfl⟩
      rw [← hm]
      have hmn : m ≤ n - k := by rw [hm]; unfold took; omega
      have hmL : m ≤ L := by rw [hm]; unfold took; omega
      have hkm : (k : Int) + (m : Int) ≤ (n : Int) := by omega
      have hkc : (k : Int) + (m : Int) ≤ (cap0 : Int) := by have := HD.out.1; omega
      have HM : Hid _ := hm
      clear hm
      go_upto_region 7 with fail
      obtain ⟨cs, hcs⟩ : ∃ cs : List Value, cs = seg dv k m := ⟨_, rfl⟩
      have hcl : cs.length = m := by rw [hcs]; exact length_seg _ _ _
      have h1c : ∀ u ∈ cs, u.oneCell' = true := by
        rw [hcs]; intro u hu; simp only [seg, List.mem_map] at hu; obtain ⟨j, _, rfl⟩ := hu; rfl
      have hsrc : 0 < cs.length → ∃ ad, (if cap0 = k then a0 else Option.map (fun x => x.add k) a0) = some ad ∧ ∀ j v, cs[j]? = some v → w.cell? (ad.add j) = some v := by
        intro hp
        obtain ⟨b, o, e1, _, hc⟩ := HD.out.2.2 (by omega)
        subst e1
        refine ⟨⟨b, o + k, none⟩, ?_, fun j v hj => ?_⟩
        · rw [if_neg (by omega)]
          by_cases e : k = 0
          · subst e; rfl
          · simp [Addr.add, e]
        · rw [hcs] at hj
          simp only [seg, List.getElem?_map, Option.map_eq_some_iff, List.getElem?_eq_some_iff, List.length_range, List.getElem_range] at hj
          obtain ⟨i, ⟨hi, rfl⟩, rfl⟩ := hj
          have := hc (k + j) (by omega)
          have e : (⟨b, o + k, none⟩ : Addr).add j = ⟨b, o + (k + j), none⟩ := by
            by_cases e : j = 0
            · subst e; rfl
            · simp [Addr.add, e]; omega
          rw [e]
          exact this
      have hwr : IntKind.i64.wrap ((k : Int) + (m : Int)) = (k : Int) + (m : Int) := wrap_small _ (by omega) (by omega)
      have hto : ((k : Int) + (m : Int)).toNat = k + m := by omega
      have hkm0 : (0 : Int) ≤ (k : Int) + (m : Int) := by omega
      have HS : Hid _ := hsrc
      have H1 : Hid _ := h1c
      have HL : Hid _ := hcl
      have HC : Hid _ := hcs
      clear hsrc h1c hcl hcs
      go_cut [] (fun wx => Copied g off cur cs w wx)
      case first =>
        go_region_law (refine step_copy_row rfl (.tmp 32) (.tmp 47) 22 22 rfl 5 Ybad.underlying22 (by kernel_rfl) _ _ _ _ _ _ rfl rfl g off cur 5 HG.out cs (by exact HL.out.trans (Nat.min_eq_left hmL).symm) (fun hp => ⟨rfl, HS.out hp⟩) (by have := HL.out; omega) H1.out ?_; intro w2 hg2 ho2 hz2 hb2)
        all_goals go_wp2
        all_goals
          go_meet
          case rel => exact ⟨hg2.out, ho2.out, hz2.out, fun B hB => (below_drewN (Below.refl _ _) _).trans (hb2.out B hB)⟩
      case rest =>
        have hR3 := (hcut.other R hRg).trans HR.out
        have he3 := (World.cell?_of_block (a := ⟨0, 0, none⟩) (hcut.other 0 hg0)).trans he
        have d0 := cell_of (i := 0) hR3 rfl
        have d1 := cell_of (i := 1) hR3 rfl
        have d3 := cell_of (i := 3) hR3 rfl
        have d4 := cell_of (i := 4) hR3 rfl
        have d5 := cell_of (i := 5) hR3 rfl
        have f3 := frozen_of hR3
        simp only [List.getElem_toArray, List.getElem_cons_zero, List.getElem_cons_succ] at d0 d1 d3 d4 d5
        have HR3 : Hid _ := hR3
        clear hR3 c0 c1 c2 c3 c4 c5 fR HS H1 hwr hto hkm0
        have hz : (((k : Int) + (m : Int)) == (n : Int)) = decide (k + m = n) := by rw [Bool.eq_iff_iff]; simp; omega
        by_cases hE : k + m = n
        · have hz1 : (((k : Int) + (m : Int)) == (n : Int)) = true := by rw [hz]; simp [hE]
          clear hz
          by_cases hm0 : 0 < m
          · have hm0' : (0 : Int) < (m : Int) := by omega
            cases wd
            · cases fail
              all_goals
                go_wp2_with fail
                go_quiet (fail)
                go_wp2
                go_ret2
                refine ⟨?_, ?_⟩
                · rw [← HM.out]; simp [rerr, hE, hm0]
                · rw [← HM.out, ← HC.out, show ((k + m : Nat) : Int) = (k : Int) + (m : Int) by omega]; first | exact rd_of hcut hRg HR3.out _ | exact (rd_of hcut hRg HR3.out _).drewN _
            · cases fail
              all_goals
                go_wp2_with fail
                go_quiet (fail)
                go_wp2_with fail
                go_quiet (fail)
                go_wp2
                go_ret2
                refine ⟨?_, ?_⟩
                · rw [← HM.out]; simp [rerr, hE, hm0]
                · rw [← HM.out, ← HC.out, show ((k + m : Nat) : Int) = (k : Int) + (m : Int) by omega]; first | exact rd_of hcut hRg HR3.out _ | exact (rd_of hcut hRg HR3.out _).drewN _
          · have hm0' : decide ((0 : Int) < (m : Int)) = false := by simp; omega
            cases wd
            · cases fail
              all_goals
                go_wp2_with fail
                go_quiet (fail)
                go_wp2_with fail
                go_quiet (fail)
                go_wp2
                go_ret2
                refine ⟨?_, ?_⟩
                · rw [← HM.out]; simp [rerr, hE, hm0]
                · rw [← HM.out, ← HC.out, show ((k + m : Nat) : Int) = (k : Int) + (m : Int) by omega]; first | exact rd_of hcut hRg HR3.out _ | exact (rd_of hcut hRg HR3.out _).drewN _
            · cases fail
              all_goals
                go_wp2_with fail
                go_quiet (fail)
                go_wp2_with fail
                go_quiet (fail)
                go_wp2
                go_ret2
                refine ⟨?_, ?_⟩
                · rw [← HM.out]; simp [rerr, hE, hm0]
                · rw [← HM.out, ← HC.out, show ((k + m : Nat) : Int) = (k : Int) + (m : Int) by omega]; first | exact rd_of hcut hRg HR3.out _ | exact (rd_of hcut hRg HR3.out _).drewN _
        · have hz1 : (((k : Int) + (m : Int)) == (n : Int)) = false := by rw [hz]; simp [hE]
          clear hz
          go_wp2_with fail
          go_quiet (fail)
          go_wp2
          go_ret2
          refine ⟨?_, ?_⟩
          · rw [← HM.out]; simp [rerr, hE]
          · rw [← HM.out, ← HC.out, show ((k + m : Nat) : Int) = (k : Int) + (m : Int) by omega]; first | exact rd_of hcut hRg HR3.out _ | exact (rd_of hcut hRg HR3.out _).drewN _
end Go.Proofs.YbulkdxzcDoor
