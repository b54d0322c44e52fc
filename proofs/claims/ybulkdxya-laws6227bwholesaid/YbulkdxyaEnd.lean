/- endWatches on a daemon whose lock is free and whose group has nobody. -/
import Derived.Test.YbulkdxyaSync
import Derived.Test.YbulkdxyaChans
import Derived.WalkSpells
import Derived.WalkLawsBesides
namespace Go.Proofs.Ybulkdxya
open Go.Conc Go.RowKit

theorem setChan_heap (w : World) (c cap : Nat) (buf : Array Value) (cl : Bool) (s r : Nat) (tm : Bool) (k : Nat) (h : k ≠ c) : (w.setChan c cap buf cl s r tm).heap[k]? = w.heap[k]? := by
  simp [World.setChan, Array.getElem?_setIfInBounds_ne (Ne.symm h)]
theorem setChan_cell (w : World) (c cap : Nat) (buf : Array Value) (cl : Bool) (s r : Nat) (tm : Bool) (k o : Nat) (h : k ≠ c) : (w.setChan c cap buf cl s r tm).cell? ⟨k, o, none⟩ = w.cell? ⟨k, o, none⟩ :=
  World.cell?_of_block (setChan_heap w c cap buf cl s r tm k h)
theorem setChan_frozen (w : World) (c cap : Nat) (buf : Array Value) (cl : Bool) (s r : Nat) (tm : Bool) (k o : Nat) (h : k ≠ c) : (w.setChan c cap buf cl s r tm).frozen? ⟨k, o, none⟩ = w.frozen? ⟨k, o, none⟩ :=
  World.frozen?_of_block (setChan_heap w c cap buf cl s r tm k h)
theorem run_close (c cap s r : Nat) (tm : Bool) (W : World) (ats : Array TypeId) (ty : TypeId) (h : W.heap[c]? = some (.chan cap #[] false s r tm)) :
    (Builtin.close_ ats ty #[.chan (some c)]).run Yba.prog W = .ok (.tuple #[]) (W.setChan c cap #[] true s r tm) := run_close_open ats ty h

set_option maxRecDepth 100000 in
set_option maxHeartbeats 800000 in
theorem end_ended (b : Nat) (w : World)
    (h47 : w.cell? ⟨b, 47, none⟩ = some (.int .i32 0)) (f47 : w.frozen? ⟨b, 47, none⟩ = false)
    (h53 : w.cell? ⟨b, 53, none⟩ = some (.bool true)) (h55 : w.cell? ⟨b, 55, none⟩ = some (.int .u64 0)) :
    Calls Yba.prog 4 #[.pointer (some ⟨b, 0, none⟩)] w fun e w' => e = .returned (.tuple #[]) ∧ w' = (w.setCell ⟨b, 47, none⟩ (.int .i32 1)).setCell ⟨b, 47, none⟩ (.int .i32 0) := by
  go_enter Yba.func4, Yba.ntmps4
  go_wp2_with (go_at_call 9; refine (lock_free b 47 _ h47 f47).mono ?_; rintro e w' ⟨rfl, rfl⟩)
  refine (unlock_held b 47 _ (World.cell?_setCell_same w ⟨b, 47, none⟩ (.int .i32 1) h47) (by simp [f47])).mono ?_
  rintro e w' ⟨rfl, rfl⟩
  go_wp2_with fail
  refine (wait_none b 55 _ (by simp [go_sem, h55])).mono ?_
  rintro e w' ⟨rfl, rfl⟩
  go_wp2
  go_end0
  exact ⟨rfl, rfl⟩

/-- What is known of the world behind endWatches (the old one: w; the daemon's block: b; the end's channel: c). -/
structure Ended (b c : Nat) (w w' : World) : Prop where
  size : w'.heap.size = w.heap.size
  other : ∀ k, k ≠ b → k ≠ c → w'.heap[k]? = w.heap[k]?
  below : ∀ B, B ≤ b → B ≤ c → Below B w w'
  frozen : ∀ o, w'.frozen? ⟨b, o, none⟩ = w.frozen? ⟨b, o, none⟩
  c47 : w'.cell? ⟨b, 47, none⟩ = some (.int .i32 0)

set_option maxRecDepth 100000 in
set_option maxHeartbeats 800000 in
theorem end_open (b c : Nat) (hbc : b ≠ c) (o0 o1 o2 o3 : Value) (cap s r : Nat) (tm : Bool) (w : World)
    (h47 : w.cell? ⟨b, 47, none⟩ = some (.int .i32 0)) (f : ∀ k, w.frozen? ⟨b, k, none⟩ = false)
    (h49 : w.cell? ⟨b, 49, none⟩ = some o0) (h50 : w.cell? ⟨b, 50, none⟩ = some o1) (h51 : w.cell? ⟨b, 51, none⟩ = some o2) (h52 : w.cell? ⟨b, 52, none⟩ = some o3)
    (h53 : w.cell? ⟨b, 53, none⟩ = some (.bool false)) (h54 : w.cell? ⟨b, 54, none⟩ = some (.chan (some c))) (h55 : w.cell? ⟨b, 55, none⟩ = some (.int .u64 0))
    (hc : w.heap[c]? = some (.chan cap #[] false s r tm)) :
    Calls Yba.prog 4 #[.pointer (some ⟨b, 0, none⟩)] w fun e w' => e = .returned (.tuple #[]) ∧ w' = (((((((w.setCell ⟨b, 47, none⟩ (.int .i32 1)).setCell ⟨b, 53, none⟩ (.bool true)).setCell ⟨b, 49, none⟩ (.int .u64 0)).setCell ⟨b, 50, none⟩ (.int .u64 0)).setCell ⟨b, 51, none⟩ (.bool false)).setCell ⟨b, 52, none⟩ (.slice none 0 0)).setChan c cap #[] true s r tm).setCell ⟨b, 47, none⟩ (.int .i32 0) := by
  have hcl := run_close c cap s r tm
  have hhp : ∀ (W : World) (o : Nat) (v : Value), (W.setCell ⟨b, o, none⟩ v).heap[c]? = W.heap[c]? := fun W o v => Below.heap_setCell W _ v c (fun e => hbc e.symm)
  have hce : ∀ (W : World) (o : Nat), (W.setChan c cap #[] true s r tm).cell? ⟨b, o, none⟩ = W.cell? ⟨b, o, none⟩ := fun W o => setChan_cell W c cap #[] true s r tm b o hbc
  have hfe : ∀ (W : World) (o : Nat), (W.setChan c cap #[] true s r tm).frozen? ⟨b, o, none⟩ = W.frozen? ⟨b, o, none⟩ := fun W o => setChan_frozen W c cap #[] true s r tm b o hbc
  go_enter Yba.func4, Yba.ntmps4
  go_wp2_with (go_at_call 9; refine (lock_free b 47 _ h47 (f 47)).mono ?_; rintro e w' ⟨rfl, rfl⟩)
  refine (unlock_held b 47 _ (by simp [go_sem, hce, h47]) (by simp [go_sem, hfe, f])).mono ?_
  rintro e w' ⟨rfl, rfl⟩
  go_wp2_with fail
  refine (wait_none b 55 _ (by simp [go_sem, hce, h55])).mono ?_
  rintro e w' ⟨rfl, rfl⟩
  go_wp2
  go_end0
  exact ⟨rfl, rfl⟩

theorem ended_ended (b c : Nat) (w : World) (h47 : w.cell? ⟨b, 47, none⟩ = some (.int .i32 0)) :
    Ended b c w ((w.setCell ⟨b, 47, none⟩ (.int .i32 1)).setCell ⟨b, 47, none⟩ (.int .i32 0)) where
  size := by simp
  other := fun k h1 _ => by rw [Below.heap_setCell _ _ _ _ h1, Below.heap_setCell _ _ _ _ h1]
  below := fun B h1 _ => ((Below.refl _ _).setCell h1 _).setCell h1 _
  frozen := fun o => by simp [go_sem]
  c47 := by simp [go_sem, h47]
theorem ended_ended_cell (b : Nat) (w : World) (o : Nat) (ho : o ≠ 47) : ((w.setCell ⟨b, 47, none⟩ (.int .i32 1)).setCell ⟨b, 47, none⟩ (.int .i32 0)).cell? ⟨b, o, none⟩ = w.cell? ⟨b, o, none⟩ := by
  rw [World.cell?_setCell_other _ _ _ _ (by simp), World.cell?_setCell_other _ _ _ _ (by simp)]

theorem open_ended (b c : Nat) (hbc : b ≠ c) (o0 o1 o2 o3 : Value) (cap s r : Nat) (tm : Bool) (w w' : World)
    (h47 : w.cell? ⟨b, 47, none⟩ = some (.int .i32 0)) 
    (h49 : w.cell? ⟨b, 49, none⟩ = some o0) (h50 : w.cell? ⟨b, 50, none⟩ = some o1) (h51 : w.cell? ⟨b, 51, none⟩ = some o2) (h52 : w.cell? ⟨b, 52, none⟩ = some o3)
    (h53 : w.cell? ⟨b, 53, none⟩ = some (.bool false)) (h54 : w.cell? ⟨b, 54, none⟩ = some (.chan (some c))) 
    (hc : w.heap[c]? = some (.chan cap #[] false s r tm))
    (hw : w' = (((((((w.setCell ⟨b, 47, none⟩ (.int .i32 1)).setCell ⟨b, 53, none⟩ (.bool true)).setCell ⟨b, 49, none⟩ (.int .u64 0)).setCell ⟨b, 50, none⟩ (.int .u64 0)).setCell ⟨b, 51, none⟩ (.bool false)).setCell ⟨b, 52, none⟩ (.slice none 0 0)).setChan c cap #[] true s r tm).setCell ⟨b, 47, none⟩ (.int .i32 0)) :
    Ended b c w w' ∧ w'.cell? ⟨b, 49, none⟩ = some (.int .u64 0) ∧ w'.cell? ⟨b, 50, none⟩ = some (.int .u64 0) ∧ w'.cell? ⟨b, 51, none⟩ = some (.bool false) ∧ w'.cell? ⟨b, 52, none⟩ = some (.slice none 0 0) ∧
      w'.cell? ⟨b, 53, none⟩ = some (.bool true) ∧ w'.cell? ⟨b, 54, none⟩ = some (.chan (some c)) ∧ w'.heap[c]? = some (.chan cap #[] true s r tm) := by
  have hce : ∀ (W : World) (o : Nat), (W.setChan c cap #[] true s r tm).cell? ⟨b, o, none⟩ = W.cell? ⟨b, o, none⟩ := fun W o => setChan_cell W c cap #[] true s r tm b o hbc
  have hfe : ∀ (W : World) (o : Nat), (W.setChan c cap #[] true s r tm).frozen? ⟨b, o, none⟩ = W.frozen? ⟨b, o, none⟩ := fun W o => setChan_frozen W c cap #[] true s r tm b o hbc
  have hlt : c < w.heap.size := by rcases Nat.lt_or_ge c w.heap.size with h | h; exact h; simp [Array.getElem?_eq_none h] at hc
  subst hw
  refine ⟨⟨?_, ?_, ?_, ?_, ?_⟩, ?_, ?_, ?_, ?_, ?_, ?_, ?_⟩
  · simp [size_setChan]
  · intro k h1 h2
    rw [Below.heap_setCell _ _ _ _ h1, setChan_heap _ _ _ _ _ _ _ _ _ h2, Below.heap_setCell _ _ _ _ h1, Below.heap_setCell _ _ _ _ h1, Below.heap_setCell _ _ _ _ h1, Below.heap_setCell _ _ _ _ h1, Below.heap_setCell _ _ _ _ h1, Below.heap_setCell _ _ _ _ h1]
  · intro B h1 h2
    exact (below_setChan (((((((Below.refl _ _).setCell h1 _).setCell h1 _).setCell h1 _).setCell h1 _).setCell h1 _).setCell h1 _) h2 _ _ _ _ _ _).setCell h1 _
  · intro o; simp [go_sem, hfe]
  · simp [go_sem, hce, h47]
  · simp [go_sem, hce, h49]
  · simp [go_sem, hce, h50]
  · simp [go_sem, hce, h51]
  · simp [go_sem, hce, h52]
  · simp [go_sem, hce, h53]
  · simp [go_sem, hce, h54]
  · rw [Below.heap_setCell _ _ _ _ (Ne.symm hbc), heap_setChan _ _ _ _ _ _ _ _ (by simp; exact hlt)]
end Go.Proofs.Ybulkdxya
