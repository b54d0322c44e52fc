/- NewNode: by contract. -/
import Derived.Test.YbulkdxyaFmtInv
import Derived.Laws.Tables
import Derived.Carry
namespace Go.Proofs.YbulkdxyaFmt
open Go.RowKit
set_option linter.unusedSimpArgs false
set_option linter.unusedVariables false

theorem info25 : (Ybaf.prog.info? 25).map (·.size) = some 5 := by kernel_rfl
/-- The node that NewNode builds. -/
def parts97 (id b c p j : Int) (mn : Bool) (ht : TypeId) (hv : Value) (vb : Nat) (m1 m2 m3 m4 m5 m6 m7 m8 m9 m10 : Nat) : List (Nat × Value) :=
  [(0, .int .u64 id), (1, .agg #[.int .i64 b, .int .i64 c, .int .i64 p, .int .i64 j, .bool mn]), (2, .iface ht hv), (10, .agg (lf1 id b (.slice (some ⟨vb, 0, none⟩) 0 0))), (11, .map (some m1)), (19, .map (some m2)), (20, .map (some m3)), (23, .map (some m4)), (13, .map (some m5)), (14, .map (some m6)), (15, .map (some m7)), (37, .map (some m8)), (26, .map (some m9)), (27, .int .u64 id), (34, .map (some m10))]
def isF : Option Value → Bool
  | some (.bool false) => true
  | _ => false
def isZ : Option Value → Bool
  | some (.int .u64 0) => true
  | _ => false
theorem isZ_of {v : Option Value} (h : isZ v = true) : v = some (.int .u64 0) := by
  unfold isZ at h
  split at h
  · rfl
  · cases h
theorem isF_of {v : Option Value} (h : isF v = true) : v = some (.bool false) := by
  unfold isF at h
  split at h
  · rfl
  · cases h
/-- What is known of the node's cells. -/
structure NF (R : Array Value) (id c : Int) (ht : TypeId) (hv : Value) (m1 m3 : Nat) : Prop where
  size : R.size = 257
  id0 : R[0]? = some (.int .u64 id)
  c2 : R[2]? = some (.int .i64 c)
  host : R[6]? = some (.iface ht hv)
  active : R[11]? = some (.bool false)
  contacts : R[13]? = some (.slice none 0 0)
  members : R[16]? = some (.slice none 0 0)
  probing : R[30]? = some (.map (some m1))
  dead : R[39]? = some (.map (some m3))
  views : R[251]? = some (.slice none 0 0)
  fingers : ∀ k, k < 64 → R[59 + k * 3]? = some (.int .u64 0) ∧ R[59 + k * 3 + 1]? = some (.bool false) ∧ R[59 + k * 3 + 2]? = some (.bool false)
theorem built97 (id b c p j : Int) (mn : Bool) (ht : TypeId) (hv : Value) (vb : Nat) (m1 m2 m3 m4 m5 m6 m7 m8 m9 m10 : Nat) :
    ∃ R, Ybaf.prog.built 97 (parts97 id b c p j mn ht hv vb m1 m2 m3 m4 m5 m6 m7 m8 m9 m10) = some R ∧ NF R id c ht hv m1 m3 ∧ R[21]? = some (.slice (some ⟨vb, 0, none⟩) 0 0) ∧ R[254]? = some (.pointer none) ∧ R[256]? = some (.slice none 0 0) := by
  have hz : (List.range 64).all (fun k => isZ ((Ybaf.prog.built 97 (parts97 id b c p j mn ht hv vb m1 m2 m3 m4 m5 m6 m7 m8 m9 m10)).getD #[])[59 + k * 3]?) = true := by kernel_rfl
  have hf : (List.range 64).all (fun k => isF ((Ybaf.prog.built 97 (parts97 id b c p j mn ht hv vb m1 m2 m3 m4 m5 m6 m7 m8 m9 m10)).getD #[])[59 + k * 3 + 1]?) = true := by kernel_rfl
  have hg : (List.range 64).all (fun k => isF ((Ybaf.prog.built 97 (parts97 id b c p j mn ht hv vb m1 m2 m3 m4 m5 m6 m7 m8 m9 m10)).getD #[])[59 + k * 3 + 2]?) = true := by kernel_rfl
  refine ⟨(Ybaf.prog.built 97 (parts97 id b c p j mn ht hv vb m1 m2 m3 m4 m5 m6 m7 m8 m9 m10)).getD #[], by kernel_rfl, ⟨by kernel_rfl, by kernel_rfl, by kernel_rfl, by kernel_rfl, by kernel_rfl, by kernel_rfl, by kernel_rfl, by kernel_rfl, by kernel_rfl, by kernel_rfl, fun k hk => ?_⟩, by kernel_rfl, by kernel_rfl, by kernel_rfl⟩
  rw [List.all_eq_true] at hf hz hg
  exact ⟨isZ_of (hz k (by simpa using hk)), isF_of (hf k (by simpa using hk)), isF_of (hg k (by simpa using hk))⟩

/-- The slots that the region's operations write. -/
def sl (i : Nat) : Nat := [15, 16, 17, 18, 19, 20, 21, 22, 23, 24, 25, 26, 27, 28, 29, 30, 31, 32, 33, 34, 9].getD i 0
theorem sl_lt {i : Nat} (h : i < 21) : sl i < 36 ∧ sl i ≠ 0 ∧ sl i ≠ 2 ∧ sl i ≠ 4 := by
  have : ∀ i : Fin 21, sl i.val < 36 ∧ sl i.val ≠ 0 ∧ sl i.val ≠ 2 ∧ sl i.val ≠ 4 := by decide
  exact this ⟨i, h⟩
theorem sl_inj {i j : Nat} (hi : i < 21) (hj : j < 21) (h : sl i = sl j) : i = j := by
  have : ∀ i j : Fin 21, sl i.val = sl j.val → i = j := by decide
  have := this ⟨i, hi⟩ ⟨j, hj⟩ h
  simpa using this
/-- A map laid by the call, empty. -/
def EM (w0 w : World) (v : Value) : Prop := ∃ g, v = .map (some g) ∧ w0.heap.size ≤ g ∧ w.heap[g]? = some (.map #[] 0)
def NodeOk (w0 w : World) (R : Array Value) (id c : Int) (ht : TypeId) (hv : Value) : Prop := ∃ m1 m3 vb, NF R id c ht hv m1 m3 ∧ R[21]? = some (.slice (some ⟨vb, 0, none⟩) 0 0) ∧ R[254]? = some (.pointer none) ∧ R[256]? = some (.slice none 0 0) ∧ m1 ≠ m3 ∧ EM w0 w (.map (some m1)) ∧ EM w0 w (.map (some m3))
/-- What operation i leaves in its slot. -/
def Pr (w0 : World) (cb : Nat) (id b c p j : Int) (mn : Bool) (ht : TypeId) (hv : Value) (i : Nat) (v : Value) (w : World) : Prop :=
  match i with
  | 0 | 3 | 16 => v = .int .u64 id
  | 1 => v = .agg #[.int .i64 b, .int .i64 c, .int .i64 p, .int .i64 j, .bool mn]
  | 2 => v = .iface ht hv
  | 4 => v = .pointer (some ⟨cb, 0, none⟩)
  | 5 => v = .int .i64 b
  | 6 => ∃ vb, v = .agg (lf1 id b (.slice (some ⟨vb, 0, none⟩) 0 0))
  | 18 => ∃ R, v = .agg R ∧ NodeOk w0 w R id c ht hv
  | 19 | 20 => ∃ N R, v = .pointer (some ⟨N, 0, none⟩) ∧ w0.heap.size ≤ N ∧ w.heap[N]? = some (.cells R 97 (0, 0)) ∧ NodeOk w0 w R id c ht hv
  | _ => EM w0 w v
theorem EM.keep {w0 w w' : World} {v : Value} (h : EM w0 w v) (hb : Below w.heap.size w w') : EM w0 w' v := by
  obtain ⟨g, h1, h2, h3⟩ := h
  exact ⟨g, h1, h2, (hb.block g (Array.getElem?_eq_some_iff.1 h3).1).trans h3⟩
theorem NodeOk.keep {w0 w w' : World} {R : Array Value} {id c : Int} {ht : TypeId} {hv : Value} (h : NodeOk w0 w R id c ht hv) (hb : Below w.heap.size w w') : NodeOk w0 w' R id c ht hv := by
  obtain ⟨m1, m3, vb, h1, h2, h3, h4, h5, h6, h7⟩ := h
  exact ⟨m1, m3, vb, h1, h2, h3, h4, h5, h6.keep hb, h7.keep hb⟩
theorem Pr.keep {w0 : World} {cb : Nat} {id b c p j : Int} {mn : Bool} {ht : TypeId} {hv : Value} {i : Nat} {v : Value} {w w' : World} (h : Pr w0 cb id b c p j mn ht hv i v w) (hb : Below w.heap.size w w') : Pr w0 cb id b c p j mn ht hv i v w' := by
  unfold Pr at h ⊢
  split at h <;> first
    | exact h
    | (obtain ⟨R, h1, h2⟩ := h; exact ⟨R, h1, h2.keep hb⟩)
    | (obtain ⟨N, R, h1, h2, h3, h4⟩ := h; exact ⟨N, R, h1, h2, (hb.block N (Array.getElem?_eq_some_iff.1 h3).1).trans h3, h4.keep hb⟩)
    | exact EM.keep h hb
/-- The state amid the region. -/
structure NI (w0 : World) (cb : Nat) (id b c p j : Int) (mn : Bool) (ht : TypeId) (hv : Value) (L : Nat → Bool) (a : Act) (w : World) : Prop where
  size : a.tmps.size = 36
  defers : a.defers = []
  s0 : a.tmps.getD 0 undef = .int .u64 id
  s2 : a.tmps.getD 2 undef = .iface ht hv
  s4 : a.tmps.getD 4 undef = .pointer (some ⟨cb, 0, none⟩)
  below : Below w0.heap.size w0 w
  each : ∀ i, i < 21 → L i = true → Pr w0 cb id b c p j mn ht hv i (a.tmps.getD (sl i) undef) w
  dist : L 7 = true → L 9 = true → a.tmps.getD 22 undef ≠ a.tmps.getD 24 undef
theorem put_getD {a : Act} {d k : Nat} {v : Value} (hd : d < a.tmps.size) : (a.put (some d) v).tmps.getD k undef = if k = d then v else a.tmps.getD k undef := by
  unfold Act.put
  simp only [Array.getD_eq_getD_getElem?]
  by_cases h : k = d
  · subst h; simp [hd]
  · simp only [h, if_false]
    rw [Array.getElem?_setIfInBounds_ne (by omega)]
theorem NI.next {w0 : World} {cb : Nat} {id b c p j : Int} {mn : Bool} {ht : TypeId} {hv : Value} {L : Nat → Bool} {a : Act} {w w' : World} (h : NI w0 cb id b c p j mn ht hv L a w) {i : Nat} (hi : i < 21) {v : Value} (hb : Below w.heap.size w w') (hw0 : w0.heap.size ≤ w.heap.size) (hp : Pr w0 cb id b c p j mn ht hv i v w')
    (h7 : i = 7 → L 9 = true → v ≠ a.tmps.getD 24 undef) (h9 : i = 9 → L 7 = true → a.tmps.getD 22 undef ≠ v) : NI w0 cb id b c p j mn ht hv (fun k => if k = i then true else L k) (a.put (some (sl i)) v) w' := by
  obtain ⟨q1, q2, q3, q4⟩ := sl_lt hi
  have hd : sl i < a.tmps.size := by rw [h.size]; exact q1
  refine ⟨by unfold Act.put; simpa using h.size, h.defers, by rw [put_getD hd, if_neg (Ne.symm q2)]; exact h.s0, by rw [put_getD hd, if_neg (Ne.symm q3)]; exact h.s2, by rw [put_getD hd, if_neg (Ne.symm q4)]; exact h.s4, h.below.trans (hb.mono hw0), fun k hk hL => ?_, fun l7 l9 => ?_⟩
  · rw [put_getD hd]
    by_cases hki : k = i
    · subst hki; rw [if_pos rfl]; exact hp
    · rw [if_neg (fun e => hki (sl_inj hk hi e))]
      simp only [hki, if_false] at hL
      exact (h.each k hk hL).keep hb
  · rw [put_getD hd, put_getD hd]
    by_cases e7 : 7 = i
    · subst e7
      have : (22 : Nat) = sl 7 := rfl
      rw [if_pos this, if_neg (by decide)]
      simp at l9
      exact h7 rfl l9
    · by_cases e9 : 9 = i
      · subst e9
        rw [if_neg (by decide), if_pos (by decide)]
        simp at l7
        exact h9 rfl l7
      · simp only [e7, e9, if_false] at l7 l9
        have n7 : ¬ 22 = sl i := fun e => e7 (sl_inj (i := 7) (by omega) hi e)
        have n9 : ¬ 24 = sl i := fun e => e9 (sl_inj (i := 9) (by omega) hi e)
        rw [if_neg n7, if_neg n9]
        exact h.dist l7 l9

theorem on_wanted {P : Program} {ops : Array Oper} {o : Oper} {a : Act} {w : World} {K : Act → World → Prop} {Q : Exit → Act → World → Prop} {E : Prop} (hg : o.guard = none) (h : Oper.wp P o a w K Q) : if Region.wanted o (yielded ops a.tmps) = true then Oper.wp P o a w K Q else E := by
  rw [if_pos (by simp [Region.wanted, hg])]
  exact h
theorem wp_build {P : Program} {o : Oper} {a : Act} {w : World} {K : Act → World → Prop} {Q : Exit → Act → World → Prop} (t : TypeId) (parts : Array (Nat × Operand)) (ho : o.op = .build t parts) (vals : Array (Nat × Value)) (hv : parts.map (fun x => (x.1, a.eval x.2)) = vals) (R : Array Value)
    (hr : (Instr.build t vals).run P w = .ok (.agg R) w) (h : K (a.put o.dst (.agg R)) w) : o.wp P a w K Q := by
  unfold Oper.wp execOp
  simp only [ho]
  have e : (Array.map (fun x : Nat × Operand => match x with | (i, y) => (i, a.eval y)) parts) = vals := hv
  rw [e]
  simp only [Sem.run_bind, hr, Result.andThen_ok, Sem.run_pure]
  exact h
theorem arr36 {A : Array Value} (h : A.size = 36) : A = #[A.getD 0 undef, A.getD 1 undef, A.getD 2 undef, A.getD 3 undef, A.getD 4 undef, A.getD 5 undef, A.getD 6 undef, A.getD 7 undef, A.getD 8 undef, A.getD 9 undef, A.getD 10 undef, A.getD 11 undef, A.getD 12 undef, A.getD 13 undef, A.getD 14 undef, A.getD 15 undef, A.getD 16 undef, A.getD 17 undef, A.getD 18 undef, A.getD 19 undef, A.getD 20 undef, A.getD 21 undef, A.getD 22 undef, A.getD 23 undef, A.getD 24 undef, A.getD 25 undef, A.getD 26 undef, A.getD 27 undef, A.getD 28 undef, A.getD 29 undef, A.getD 30 undef, A.getD 31 undef, A.getD 32 undef, A.getD 33 undef, A.getD 34 undef, A.getD 35 undef] := by
  apply Array.ext_getElem?
  intro i
  rcases Nat.lt_or_ge i 36 with hi | hi
  · match i, hi with
    | 0, _ => rw [show A[0]? = some (A.getD 0 undef) by rw [Array.getD_eq_getD_getElem?, Array.getElem?_eq_getElem (by omega)]; rfl]; rfl
    | 1, _ => rw [show A[1]? = some (A.getD 1 undef) by rw [Array.getD_eq_getD_getElem?, Array.getElem?_eq_getElem (by omega)]; rfl]; rfl
    | 2, _ => rw [show A[2]? = some (A.getD 2 undef) by rw [Array.getD_eq_getD_getElem?, Array.getElem?_eq_getElem (by omega)]; rfl]; rfl
    | 3, _ => rw [show A[3]? = some (A.getD 3 undef) by rw [Array.getD_eq_getD_getElem?, Array.getElem?_eq_getElem (by omega)]; rfl]; rfl
    | 4, _ => rw [show A[4]? = some (A.getD 4 undef) by rw [Array.getD_eq_getD_getElem?, Array.getElem?_eq_getElem (by omega)]; rfl]; rfl
    | 5, _ => rw [show A[5]? = some (A.getD 5 undef) by rw [Array.getD_eq_getD_getElem?, Array.getElem?_eq_getElem (by omega)]; rfl]; rfl
    | 6, _ => rw [show A[6]? = some (A.getD 6 undef) by rw [Array.getD_eq_getD_getElem?, Array.getElem?_eq_getElem (by omega)]; rfl]; rfl
    | 7, _ => rw [show A[7]? = some (A.getD 7 undef) by rw [Array.getD_eq_getD_getElem?, Array.getElem?_eq_getElem (by omega)]; rfl]; rfl
    | 8, _ => rw [show A[8]? = some (A.getD 8 undef) by rw [Array.getD_eq_getD_getElem?, Array.getElem?_eq_getElem (by omega)]; rfl]; rfl
    | 9, _ => rw [show A[9]? = some (A.getD 9 undef) by rw [Array.getD_eq_getD_getElem?, Array.getElem?_eq_getElem (by omega)]; rfl]; rfl
    | 10, _ => rw [show A[10]? = some (A.getD 10 undef) by rw [Array.getD_eq_getD_getElem?, Array.getElem?_eq_getElem (by omega)]; rfl]; rfl
    | 11, _ => rw [show A[11]? = some (A.getD 11 undef) by rw [Array.getD_eq_getD_getElem?, Array.getElem?_eq_getElem (by omega)]; rfl]; rfl
    | 12, _ => rw [show A[12]? = some (A.getD 12 undef) by rw [Array.getD_eq_getD_getElem?, Array.getElem?_eq_getElem (by omega)]; rfl]; rfl
    | 13, _ => rw [show A[13]? = some (A.getD 13 undef) by rw [Array.getD_eq_getD_getElem?, Array.getElem?_eq_getElem (by omega)]; rfl]; rfl
    | 14, _ => rw [show A[14]? = some (A.getD 14 undef) by rw [Array.getD_eq_getD_getElem?, Array.getElem?_eq_getElem (by omega)]; rfl]; rfl
    | 15, _ => rw [show A[15]? = some (A.getD 15 undef) by rw [Array.getD_eq_getD_getElem?, Array.getElem?_eq_getElem (by omega)]; rfl]; rfl
    | 16, _ => rw [show A[16]? = some (A.getD 16 undef) by rw [Array.getD_eq_getD_getElem?, Array.getElem?_eq_getElem (by omega)]; rfl]; rfl
    | 17, _ => rw [show A[17]? = some (A.getD 17 undef) by rw [Array.getD_eq_getD_getElem?, Array.getElem?_eq_getElem (by omega)]; rfl]; rfl
    | 18, _ => rw [show A[18]? = some (A.getD 18 undef) by rw [Array.getD_eq_getD_getElem?, Array.getElem?_eq_getElem (by omega)]; rfl]; rfl
    | 19, _ => rw [show A[19]? = some (A.getD 19 undef) by rw [Array.getD_eq_getD_getElem?, Array.getElem?_eq_getElem (by omega)]; rfl]; rfl
    | 20, _ => rw [show A[20]? = some (A.getD 20 undef) by rw [Array.getD_eq_getD_getElem?, Array.getElem?_eq_getElem (by omega)]; rfl]; rfl
    | 21, _ => rw [show A[21]? = some (A.getD 21 undef) by rw [Array.getD_eq_getD_getElem?, Array.getElem?_eq_getElem (by omega)]; rfl]; rfl
    | 22, _ => rw [show A[22]? = some (A.getD 22 undef) by rw [Array.getD_eq_getD_getElem?, Array.getElem?_eq_getElem (by omega)]; rfl]; rfl
    | 23, _ => rw [show A[23]? = some (A.getD 23 undef) by rw [Array.getD_eq_getD_getElem?, Array.getElem?_eq_getElem (by omega)]; rfl]; rfl
    | 24, _ => rw [show A[24]? = some (A.getD 24 undef) by rw [Array.getD_eq_getD_getElem?, Array.getElem?_eq_getElem (by omega)]; rfl]; rfl
    | 25, _ => rw [show A[25]? = some (A.getD 25 undef) by rw [Array.getD_eq_getD_getElem?, Array.getElem?_eq_getElem (by omega)]; rfl]; rfl
    | 26, _ => rw [show A[26]? = some (A.getD 26 undef) by rw [Array.getD_eq_getD_getElem?, Array.getElem?_eq_getElem (by omega)]; rfl]; rfl
    | 27, _ => rw [show A[27]? = some (A.getD 27 undef) by rw [Array.getD_eq_getD_getElem?, Array.getElem?_eq_getElem (by omega)]; rfl]; rfl
    | 28, _ => rw [show A[28]? = some (A.getD 28 undef) by rw [Array.getD_eq_getD_getElem?, Array.getElem?_eq_getElem (by omega)]; rfl]; rfl
    | 29, _ => rw [show A[29]? = some (A.getD 29 undef) by rw [Array.getD_eq_getD_getElem?, Array.getElem?_eq_getElem (by omega)]; rfl]; rfl
    | 30, _ => rw [show A[30]? = some (A.getD 30 undef) by rw [Array.getD_eq_getD_getElem?, Array.getElem?_eq_getElem (by omega)]; rfl]; rfl
    | 31, _ => rw [show A[31]? = some (A.getD 31 undef) by rw [Array.getD_eq_getD_getElem?, Array.getElem?_eq_getElem (by omega)]; rfl]; rfl
    | 32, _ => rw [show A[32]? = some (A.getD 32 undef) by rw [Array.getD_eq_getD_getElem?, Array.getElem?_eq_getElem (by omega)]; rfl]; rfl
    | 33, _ => rw [show A[33]? = some (A.getD 33 undef) by rw [Array.getD_eq_getD_getElem?, Array.getElem?_eq_getElem (by omega)]; rfl]; rfl
    | 34, _ => rw [show A[34]? = some (A.getD 34 undef) by rw [Array.getD_eq_getD_getElem?, Array.getElem?_eq_getElem (by omega)]; rfl]; rfl
    | 35, _ => rw [show A[35]? = some (A.getD 35 undef) by rw [Array.getD_eq_getD_getElem?, Array.getElem?_eq_getElem (by omega)]; rfl]; rfl
    | i + 36, h' => exact absurd h' (by omega)
  · rw [Array.getElem?_eq_none (by omega), Array.getElem?_eq_none (by simpa using hi)]

set_option maxRecDepth 100000 in
set_option maxHeartbeats 4000000 in
theorem newNode_calls (id b c p j : Int) (mn : Bool) (ht : TypeId) (hv : Value) (w : World) (hb : 1 ≤ b ∧ b ≤ 21) (hc : 1 ≤ c ∧ c ≤ b) (hp : 0 < p) (hj : 0 ≤ j) :
    Calls Ybaf.prog 8 #[.int .u64 id, .agg #[.int .i64 b, .int .i64 c, .int .i64 p, .int .i64 j, .bool mn], .iface ht hv] w fun e w' => ∃ N R, e = .returned (.tuple #[.pointer (some ⟨N, 0, none⟩), .nilIface]) ∧ w.heap.size ≤ N ∧ w'.heap[N]? = some (.cells R 97 (0, 0)) ∧ NodeOk w w' R id c ht hv ∧ Below w.heap.size w w' := by
  have HV : Hid (∀ w : World, Calls Ybaf.prog 18 #[.agg #[.int .i64 b, .int .i64 c, .int .i64 p, .int .i64 j, .bool mn]] w fun e w' => e = .returned .nilIface ∧ Below w.heap.size w w') := fun w => validate_calls b c p j mn w hb hc hp hj
  go_enter Ybaf.func8, Ybaf.ntmps8
  go_upto_region 4 with (go_at_call 18; refine (HV.out _).mono ?_; rintro e' w1 ⟨rfl, hb1⟩; have HB1 : Hid (Below _ _ w1) := hb1; clear hb1)
  have hb1 : Below w.heap.size w w1 := ((Below.refl _ _).alloc (Nat.le_refl _) _).trans (HB1.out.mono (by simp))
  have hcfg : w1.heap[w.heap.size]? = some (.cells #[.int .i64 b, .int .i64 c, .int .i64 p, .int .i64 j, .bool mn] 25 (0, 0)) := (HB1.out.block w.heap.size (by simp)).trans (new_at rfl)
  have hcl : w.heap.size < w1.heap.size := (Array.getElem?_eq_some_iff.1 hcfg).1
  refine wp_region_inv (by kernel_rfl) (NI w1 w.heap.size id b c p j mn ht hv) ?hac ?h0 ?hstep ?hdone
  case hac =>
    intro i o ho e he
    have hi : i < 21 := (Array.getElem?_eq_some_iff.1 ho).1
    match i, hi with
    | 0, _ => obtain rfl := Option.some.inj ho; revert e; decide
    | 1, _ => obtain rfl := Option.some.inj ho; revert e; decide
    | 2, _ => obtain rfl := Option.some.inj ho; revert e; decide
    | 3, _ => obtain rfl := Option.some.inj ho; revert e; decide
    | 4, _ => obtain rfl := Option.some.inj ho; revert e; decide
    | 5, _ => obtain rfl := Option.some.inj ho; revert e; decide
    | 6, _ => obtain rfl := Option.some.inj ho; revert e; decide
    | 7, _ => obtain rfl := Option.some.inj ho; revert e; decide
    | 8, _ => obtain rfl := Option.some.inj ho; revert e; decide
    | 9, _ => obtain rfl := Option.some.inj ho; revert e; decide
    | 10, _ => obtain rfl := Option.some.inj ho; revert e; decide
    | 11, _ => obtain rfl := Option.some.inj ho; revert e; decide
    | 12, _ => obtain rfl := Option.some.inj ho; revert e; decide
    | 13, _ => obtain rfl := Option.some.inj ho; revert e; decide
    | 14, _ => obtain rfl := Option.some.inj ho; revert e; decide
    | 15, _ => obtain rfl := Option.some.inj ho; revert e; decide
    | 16, _ => obtain rfl := Option.some.inj ho; revert e; decide
    | 17, _ => obtain rfl := Option.some.inj ho; revert e; decide
    | 18, _ => obtain rfl := Option.some.inj ho; revert e; decide
    | 19, _ => obtain rfl := Option.some.inj ho; revert e; decide
    | 20, _ => obtain rfl := Option.some.inj ho; revert e; decide
    | n + 21, h => exact absurd h (by omega)
  case h0 =>
    exact ⟨rfl, rfl, rfl, rfl, rfl, (Below.refl _ _).drew, fun i _ h => by simp at h, fun h => by simp at h⟩
  case hdone =>
    intro L a w2 hI hall
    obtain ⟨tm, df⟩ := a
    obtain rfl : df = [] := hI.defers
    have htm := arr36 hI.size
    obtain ⟨N, R, e9, hN, hR, hok⟩ := hI.each 20 (by omega) (hall 20 (by simp))
    have e9' : tm.getD 9 undef = .pointer (some ⟨N, 0, none⟩) := e9
    have HX : Hid (w1.heap.size ≤ N ∧ w2.heap[N]? = some (.cells R 97 (0, 0)) ∧ NodeOk w1 w2 R id c ht hv ∧ Below w1.heap.size w1 w2) := ⟨hN, hR, hok, hI.below⟩
    simp only at htm
    rw [htm, e9']
    clear hI hall htm e9 e9' hN hR hok
    simp only [Exit.then]
    go_wp2_with fail
    go_ret2
    obtain ⟨h1, h2, h3, h4⟩ := HX.out
    refine ⟨N, R, rfl, by omega, h2, ?_, hb1.trans (h4.mono (by omega))⟩
    obtain ⟨m1, m3, vb, k1, k2, k3, k4, k5, ⟨g1, q1, q2, q3⟩, ⟨g3, r1, r2, r3⟩⟩ := h3
    exact ⟨m1, m3, vb, k1, k2, k3, k4, k5, ⟨g1, q1, by omega, q3⟩, ⟨g3, r1, by omega, r3⟩⟩
  case hstep =>
    intro i o ho L a w2 hI hdep K' hK
    have hi : i < 21 := (Array.getElem?_eq_some_iff.1 ho).1
    have hw2 : w1.heap.size ≤ w2.heap.size := hI.below.size
    have hcfg2 : w2.heap[w.heap.size]? = some (.cells #[.int .i64 b, .int .i64 c, .int .i64 p, .int .i64 j, .bool mn] 25 (0, 0)) := (hI.below.block _ hcl).trans hcfg
    match i, hi with
    | 0, _ =>
      obtain rfl := Option.some.inj ho
      refine on_wanted rfl ?_
      show K' (a.put (some 15) (a.tmps.getD 0 undef)) w2
      exact hK _ _ (hI.next (i := 0) (by omega) (Below.refl _ _) hw2 hI.s0 (by omega) (by omega))
    | 1, _ =>
      obtain rfl := Option.some.inj ho
      refine on_wanted rfl ?_
      refine wp_load_row 25 (.tmp 4) rfl w.heap.size hI.s4 25 _ (0, 0) _ hcfg2 Ybaf.underlying25 rfl info25 ?_
      exact hK _ _ (hI.next (i := 1) (by omega) (Below.refl _ _) hw2 rfl (by omega) (by omega))
    | 2, _ =>
      obtain rfl := Option.some.inj ho
      refine on_wanted rfl ?_
      show K' (a.put (some 17) (a.tmps.getD 2 undef)) w2
      exact hK _ _ (hI.next (i := 2) (by omega) (Below.refl _ _) hw2 hI.s2 (by omega) (by omega))
    | 3, _ =>
      obtain rfl := Option.some.inj ho
      refine on_wanted rfl ?_
      show K' (a.put (some 18) (a.tmps.getD 0 undef)) w2
      exact hK _ _ (hI.next (i := 3) (by omega) (Below.refl _ _) hw2 hI.s0 (by omega) (by omega))
    | 4, _ =>
      obtain rfl := Option.some.inj ho
      refine on_wanted rfl ?_
      have e : a.tmps[4]?.getD undef = .pointer (some ⟨w.heap.size, 0, none⟩) := by rw [← Array.getD_eq_getD_getElem?]; exact hI.s4
      unfold Oper.wp execOp
      go_simp
      exact hK _ _ (hI.next (i := 4) (by omega) (Below.refl _ _) hw2 rfl (by omega) (by omega))
    | 5, _ =>
      obtain rfl := Option.some.inj ho
      refine on_wanted rfl ?_
      have e : a.tmps[19]?.getD undef = .pointer (some ⟨w.heap.size, 0, none⟩) := by rw [← Array.getD_eq_getD_getElem?]; exact hI.each 4 (by omega) (hdep ⟨4, .data⟩ (by simp) rfl)
      have c0 : w2.cell? ⟨w.heap.size, 0, none⟩ = some (.int .i64 b) := cell_of hcfg2 rfl
      unfold Oper.wp execOp
      go_simp
      exact hK _ _ (hI.next (i := 5) (by omega) (Below.refl _ _) hw2 rfl (by omega) (by omega))
    | 6, _ =>
      obtain rfl := Option.some.inj ho
      refine on_wanted rfl ?_
      have e1 : a.tmps[18]?.getD undef = .int .u64 id := by rw [← Array.getD_eq_getD_getElem?]; exact hI.each 3 (by omega) (hdep ⟨3, .data⟩ (by simp) rfl)
      have e2 : a.tmps[20]?.getD undef = .int .i64 b := by rw [← Array.getD_eq_getD_getElem?]; exact hI.each 5 (by omega) (hdep ⟨5, .data⟩ (by simp) rfl)
      unfold Oper.wp execOp
      go_simp
      refine (newLeafset_calls id b w2 hb.1).mono ?_
      rintro e' w3 ⟨vb, rfl, hb3⟩
      exact hK _ _ (hI.next (i := 6) (by omega) hb3 hw2 ⟨vb, rfl⟩ (by omega) (by omega))
    | 7, _ =>
      obtain rfl := Option.some.inj ho
      refine on_wanted rfl ?_
      show K' (a.put (some 22) (.map (some w2.heap.size))) (w2.alloc (.map #[] 0))
      exact hK _ _ (hI.next (i := 7) (by omega) ((Below.refl _ _).alloc (Nat.le_refl _) _) hw2 ⟨_, rfl, hw2, new_at rfl⟩ (fun _ l9 e => by obtain ⟨g, e1, _, e3⟩ := hI.each 9 (by omega) l9; have : a.tmps.getD 24 undef = .map (some g) := e1; rw [this] at e; cases e; have := (Array.getElem?_eq_some_iff.1 e3).1; omega) (by omega))
    | 8, _ =>
      obtain rfl := Option.some.inj ho
      refine on_wanted rfl ?_
      show K' (a.put (some 23) (.map (some w2.heap.size))) (w2.alloc (.map #[] 0))
      exact hK _ _ (hI.next (i := 8) (by omega) ((Below.refl _ _).alloc (Nat.le_refl _) _) hw2 ⟨_, rfl, hw2, new_at rfl⟩ (by omega) (by omega))
    | 9, _ =>
      obtain rfl := Option.some.inj ho
      refine on_wanted rfl ?_
      show K' (a.put (some 24) (.map (some w2.heap.size))) (w2.alloc (.map #[] 0))
      exact hK _ _ (hI.next (i := 9) (by omega) ((Below.refl _ _).alloc (Nat.le_refl _) _) hw2 ⟨_, rfl, hw2, new_at rfl⟩ (by omega) (fun _ l7 e => by obtain ⟨g, e1, _, e3⟩ := hI.each 7 (by omega) l7; have : a.tmps.getD 22 undef = .map (some g) := e1; rw [this] at e; cases e; have := (Array.getElem?_eq_some_iff.1 e3).1; omega))
    | 10, _ =>
      obtain rfl := Option.some.inj ho
      refine on_wanted rfl ?_
      show K' (a.put (some 25) (.map (some w2.heap.size))) (w2.alloc (.map #[] 0))
      exact hK _ _ (hI.next (i := 10) (by omega) ((Below.refl _ _).alloc (Nat.le_refl _) _) hw2 ⟨_, rfl, hw2, new_at rfl⟩ (by omega) (by omega))
    | 11, _ =>
      obtain rfl := Option.some.inj ho
      refine on_wanted rfl ?_
      show K' (a.put (some 26) (.map (some w2.heap.size))) (w2.alloc (.map #[] 0))
      exact hK _ _ (hI.next (i := 11) (by omega) ((Below.refl _ _).alloc (Nat.le_refl _) _) hw2 ⟨_, rfl, hw2, new_at rfl⟩ (by omega) (by omega))
    | 12, _ =>
      obtain rfl := Option.some.inj ho
      refine on_wanted rfl ?_
      show K' (a.put (some 27) (.map (some w2.heap.size))) (w2.alloc (.map #[] 0))
      exact hK _ _ (hI.next (i := 12) (by omega) ((Below.refl _ _).alloc (Nat.le_refl _) _) hw2 ⟨_, rfl, hw2, new_at rfl⟩ (by omega) (by omega))
    | 13, _ =>
      obtain rfl := Option.some.inj ho
      refine on_wanted rfl ?_
      show K' (a.put (some 28) (.map (some w2.heap.size))) (w2.alloc (.map #[] 0))
      exact hK _ _ (hI.next (i := 13) (by omega) ((Below.refl _ _).alloc (Nat.le_refl _) _) hw2 ⟨_, rfl, hw2, new_at rfl⟩ (by omega) (by omega))
    | 14, _ =>
      obtain rfl := Option.some.inj ho
      refine on_wanted rfl ?_
      show K' (a.put (some 29) (.map (some w2.heap.size))) (w2.alloc (.map #[] 0))
      exact hK _ _ (hI.next (i := 14) (by omega) ((Below.refl _ _).alloc (Nat.le_refl _) _) hw2 ⟨_, rfl, hw2, new_at rfl⟩ (by omega) (by omega))
    | 15, _ =>
      obtain rfl := Option.some.inj ho
      refine on_wanted rfl ?_
      show K' (a.put (some 30) (.map (some w2.heap.size))) (w2.alloc (.map #[] 0))
      exact hK _ _ (hI.next (i := 15) (by omega) ((Below.refl _ _).alloc (Nat.le_refl _) _) hw2 ⟨_, rfl, hw2, new_at rfl⟩ (by omega) (by omega))
    | 16, _ =>
      obtain rfl := Option.some.inj ho
      refine on_wanted rfl ?_
      show K' (a.put (some 31) (a.tmps.getD 0 undef)) w2
      exact hK _ _ (hI.next (i := 16) (by omega) (Below.refl _ _) hw2 hI.s0 (by omega) (by omega))
    | 17, _ =>
      obtain rfl := Option.some.inj ho
      refine on_wanted rfl ?_
      show K' (a.put (some 32) (.map (some w2.heap.size))) (w2.alloc (.map #[] 0))
      exact hK _ _ (hI.next (i := 17) (by omega) ((Below.refl _ _).alloc (Nat.le_refl _) _) hw2 ⟨_, rfl, hw2, new_at rfl⟩ (by omega) (by omega))
    | 18, _ =>
      obtain rfl := Option.some.inj ho
      refine on_wanted rfl ?_
      have e15 : a.eval (.tmp 15) = .int .u64 id := hI.each 0 (by omega) (hdep ⟨0, .data⟩ (by simp) rfl)
      have e16 : a.eval (.tmp 16) = .agg #[.int .i64 b, .int .i64 c, .int .i64 p, .int .i64 j, .bool mn] := hI.each 1 (by omega) (hdep ⟨1, .data⟩ (by simp) rfl)
      have e17 : a.eval (.tmp 17) = .iface ht hv := hI.each 2 (by omega) (hdep ⟨2, .data⟩ (by simp) rfl)
      obtain ⟨vb, e21'⟩ := hI.each 6 (by omega) (hdep ⟨6, .data⟩ (by simp) rfl)
      have e21 : a.eval (.tmp 21) = .agg (lf1 id b (.slice (some ⟨vb, 0, none⟩) 0 0)) := e21'
      obtain ⟨m1, e22', b1, g1⟩ := hI.each 7 (by omega) (hdep ⟨7, .data⟩ (by simp) rfl)
      have e22 : a.eval (.tmp 22) = .map (some m1) := e22'
      obtain ⟨m2, e23', b2, g2⟩ := hI.each 8 (by omega) (hdep ⟨8, .data⟩ (by simp) rfl)
      have e23 : a.eval (.tmp 23) = .map (some m2) := e23'
      obtain ⟨m3, e24', b3, g3⟩ := hI.each 9 (by omega) (hdep ⟨9, .data⟩ (by simp) rfl)
      have e24 : a.eval (.tmp 24) = .map (some m3) := e24'
      obtain ⟨m4, e25', b4, g4⟩ := hI.each 10 (by omega) (hdep ⟨10, .data⟩ (by simp) rfl)
      have e25 : a.eval (.tmp 25) = .map (some m4) := e25'
      obtain ⟨m5, e26', b5, g5⟩ := hI.each 11 (by omega) (hdep ⟨11, .data⟩ (by simp) rfl)
      have e26 : a.eval (.tmp 26) = .map (some m5) := e26'
      obtain ⟨m6, e27', b6, g6⟩ := hI.each 12 (by omega) (hdep ⟨12, .data⟩ (by simp) rfl)
      have e27 : a.eval (.tmp 27) = .map (some m6) := e27'
      obtain ⟨m7, e28', b7, g7⟩ := hI.each 13 (by omega) (hdep ⟨13, .data⟩ (by simp) rfl)
      have e28 : a.eval (.tmp 28) = .map (some m7) := e28'
      obtain ⟨m8, e29', b8, g8⟩ := hI.each 14 (by omega) (hdep ⟨14, .data⟩ (by simp) rfl)
      have e29 : a.eval (.tmp 29) = .map (some m8) := e29'
      obtain ⟨m9, e30', b9, g9⟩ := hI.each 15 (by omega) (hdep ⟨15, .data⟩ (by simp) rfl)
      have e30 : a.eval (.tmp 30) = .map (some m9) := e30'
      obtain ⟨m10, e32', b10, g10⟩ := hI.each 17 (by omega) (hdep ⟨17, .data⟩ (by simp) rfl)
      have e32 : a.eval (.tmp 32) = .map (some m10) := e32'
      have e31 : a.eval (.tmp 31) = .int .u64 id := hI.each 16 (by omega) (hdep ⟨16, .data⟩ (by simp) rfl)
      obtain ⟨R, hbuilt, hNF, hR21, hR254, hR256⟩ := built97 id b c p j mn ht hv vb m1 m2 m3 m4 m5 m6 m7 m8 m9 m10
      have hrun := run_build (P := Ybaf.prog) w2 97 (parts97 id b c p j mn ht hv vb m1 m2 m3 m4 m5 m6 m7 m8 m9 m10).toArray R (by simpa using hbuilt)
      refine wp_build 97 #[(0, .tmp 15), (1, .tmp 16), (2, .tmp 17), (10, .tmp 21), (11, .tmp 22), (19, .tmp 23), (20, .tmp 24), (23, .tmp 25), (13, .tmp 26), (14, .tmp 27), (15, .tmp 28), (37, .tmp 29), (26, .tmp 30), (27, .tmp 31), (34, .tmp 32)] rfl _ ?_ R hrun ?_
      · simp only [List.map_toArray, List.map_cons, List.map_nil, e15, e16, e17, e21, e22, e23, e24, e25, e26, e27, e28, e29, e30, e31, e32, parts97]
      refine hK _ _ (hI.next (i := 18) (by omega) (Below.refl _ _) hw2 ⟨R, rfl, m1, m3, vb, hNF, hR21, hR254, hR256, ?_, ⟨m1, rfl, b1, g1⟩, ⟨m3, rfl, b3, g3⟩⟩ (by omega) (by omega))
      intro e
      have := hI.dist (hdep ⟨7, .data⟩ (by simp) rfl) (hdep ⟨9, .data⟩ (by simp) rfl)
      have q1 : a.tmps.getD 22 undef = .map (some m1) := e22'
      have q3 : a.tmps.getD 24 undef = .map (some m3) := e24'
      rw [q1, q3, e] at this
      exact this rfl
    | 19, _ =>
      obtain rfl := Option.some.inj ho
      refine on_wanted rfl ?_
      obtain ⟨R, e33', hok⟩ := hI.each 18 (by omega) (hdep ⟨18, .data⟩ (by simp) rfl)
      have e33 : a.tmps[33]?.getD undef = .agg R := by rw [← Array.getD_eq_getD_getElem?]; exact e33'
      unfold Oper.wp execOp
      go_simp
      have hbx : Below w2.heap.size w2 (w2.alloc (.cells R 97)) := (Below.refl _ _).alloc (Nat.le_refl _) _
      exact hK _ _ (hI.next (i := 19) (by omega) hbx hw2 ⟨w2.heap.size, R, rfl, hw2, new_at rfl, hok.keep hbx⟩ (by omega) (by omega))
    | 20, _ =>
      obtain rfl := Option.some.inj ho
      refine on_wanted rfl ?_
      have h19 := hI.each 19 (by omega) (hdep ⟨19, .data⟩ (by simp) rfl)
      show K' (a.put (some 9) (a.tmps.getD 34 undef)) w2
      exact hK _ _ (hI.next (i := 20) (by omega) (Below.refl _ _) hw2 h19 (by omega) (by omega))
    | n + 21, h => exact absurd h (by omega)
end Go.Proofs.YbulkdxyaFmt
