/- TraceType.String: some string, nothing old turned; the error on NodeLen. -/
import Derived.Test.YbulkdycwFmtErr
import Derived.OwnWalk
import Derived.Laws.AppendOwn
import Derived.Deep.AppendLies
import Derived.Laws.BytesArg
namespace Go.Proofs.YbulkdycwFmt
open Go.RowKit
open Go.Extern.Stop Go.Stop Go.Extern
set_option linter.unusedSimpArgs false
set_option linter.unusedVariables false

/-- A region whose first n operations only read, the rest in the text's order behind them: the world under a name. -/
theorem wp_tail {P : Program} {id : Nat} {Q : Exit → Act → World → Prop} {a : Act} {w : World} {l : List Oper} (n : Nat) (hm : P.follows .mixedOrders = true) (hB : Region.lexTailB .any l.toArray n = true)
    (h : ∀ W : World, W = w.drew → wpStill P l.toArray W (fun a' => wpList P l.toArray Q (l.drop n) a' W) (l.take n) a) : (Code.region id l.toArray true).wp P Q a w :=
  wp_region_still_tail n hm hB (h _ rfl)
theorem info5 : (Ybaf.prog.info? 5).map (fun i => (i.zero, i.size, i.bytes)) = some (some (.int .u8 0), 1, 1) := by kernel_rfl
theorem grown_of_below {w w' : World} {B : Nat} (h : Below B w w') (hB : w.heap.size ≤ B) : w.grownBy w' none :=
  ⟨h.os, h.tape, h.output, by
    rcases Nat.eq_zero_or_pos w.heap.size with h0 | h0
    · omega
    · have h1 := h.block (w.heap.size - 1) (by omega)
      rw [Array.getElem?_eq_getElem (show w.heap.size - 1 < w.heap.size by omega)] at h1
      have := (Array.getElem?_eq_some_iff.1 h1).1
      omega, fun i hi _ => h.block i (by omega)⟩
theorem own_grow {B n : Nat} {e : TypeId} {sz : Nat} {v : Value} {w0 w w' : World} {xs : List Value} (hb : Below B w0 w) (hB : B ≤ w.heap.size) (hv : w.ownsRow B e sz v n xs) (hg : w.grownBy w' v.ownBlock) : Below B w0 w' :=
  hb.grown hg hB (fun k hk => (hv.lt k hk).1)
theorem own_drew {B n : Nat} {e : TypeId} {sz : Nat} {v : Value} {w : World} {xs : List Value} (h : w.ownsRow B e sz v n xs) : w.drew.ownsRow B e sz v n xs := h
/-- A row of bytes that the call owns. -/
def OwnBs (w : World) (B : Nat) (v : Value) (n : Nat) : Prop := ∃ xs : List Int, xs.length = n ∧ w.ownsRow B 5 1 v n (xs.map (Value.int .u8))

theorem own_push2 {w : World} {B n : Nat} {v : Value} {xs : List Int} {a b : Int} (hx : xs.length = n) (h : w.ownsRow B 5 1 v (n + 2) (xs.map (Value.int .u8) ++ [.int .u8 a, .int .u8 b])) : OwnBs w B v (n + 2) :=
  ⟨xs ++ [a, b], by simp [hx], by simpa using h⟩

set_option maxRecDepth 100000 in
set_option maxHeartbeats 2000000 in
theorem hexWord_calls (V : Int) (h0 : 0 ≤ V) (h1 : V < 16777216) (w : World) :
    Calls Ybaf.prog 32 #[.slice none 0 0, .int .u64 V, .int .i64 3] w fun e w' => ∃ v n, e = .returned v ∧ OwnBs w' w.heap.size v n ∧ 0 < n ∧ Below w.heap.size w w' := by
  obtain ⟨i5, hi5, hz0, hz1, hz2⟩ := info_parts info5
  go_enter Ybaf.func32, Ybaf.ntmps32
  go_upto_region 2 with (first
    | (at_builtin; refine wpList_append_own _ rfl (.tmp 9) (.tmp 10) 24 rfl w.heap.size 5 i5 (.int .u8 0) 1 1 Ybaf.underlying24 hi5 hz0 hz1 hz2 rfl (by decide) (.slice none 0 0) 0 [] rfl (World.ownsRow_nil _ _ _ _) ⟨w.heap.size, 0, none⟩ 2 2 [.int .u8 48, .int .u8 120] rfl rfl (World.news_of_block (cs := #[.int .u8 48, .int .u8 120]) (heap_alloc_new _ _)) (by simp [Value.oneCell']) (by unfold maxLen; omega) (by omega) (by simp) ?_; intro v' w1 hown' hgrow _; have HO : Hid (OwnBs w1 w.heap.size v' 2) := ⟨[48, 120], rfl, hown'⟩; have HB : Hid (Below w.heap.size w w1) := own_grow ((Below.refl _ _).alloc (Nat.le_refl _) _) (by simp) (World.ownsRow_nil _ _ 5 1) hgrow; clear hown' hgrow)
    | go_in)
  go_wp2_with fail
  go_loopw [0, 7] (fun v s wr => ∃ k n : Nat, k ≤ 3 ∧ n ≤ 2 + 2 * k ∧ 0 < n ∧ s = .int .i64 (16 - 8 * (k : Int)) ∧ OwnBs wr w.heap.size v n ∧ Below w.heap.size w wr) (fun _ s _ => 24 - (16 - intOf s).toNat)
  case atStart => exact ⟨0, 2, by omega, by omega, by omega, rfl, HO.out, HB.out⟩
  case round =>
    clear HO HB
    obtain ⟨k, n, hk, hn, hn0, rfl, hO, hB⟩ := hrel
    have HO : Hid (OwnBs wr w.heap.size _ n) := hO
    have HB : Hid (Below w.heap.size w wr) := hB
    clear hO hB
    by_cases hlt : k < 3
    · have hk3 : k = 0 ∨ k = 1 ∨ k = 2 := by omega
      obtain ⟨x, hx⟩ : ∃ x : Int, IntKind.u8.wrap (V / 2 ^ (16 - 8 * k)) = x := ⟨_, rfl⟩
      have hx0 : 0 ≤ x ∧ x ≤ 255 := by rw [← hx, IntKind.wrap_u8]; omega
      have ha : bits .and .u8 x 15 = x % 16 := u8_and15 x hx0.1 (by omega)
      have hc1 : 0 ≤ x / 16 := by omega
      have hc2 : x / 16 < 16 := by omega
      have hc3 : 0 ≤ x % 16 := by omega
      have hc4 : x % 16 < 16 := by omega
      rcases hk3 with rfl | rfl | rfl
      · simp at hx
        go_upto_region 6 with fail
        obtain ⟨xs, hxs, hown⟩ := HO.out
        have HX : Hid (wr.ownsRow w.heap.size 5 1 u0 n (xs.map (Value.int .u8))) := hown
        clear hown
        go_region_law (refine step_append_lies _ rfl (.tmp 23) (.tmp 30) 24 rfl w.heap.size 5 i5 (.int .u8 0) 1 1 Ybaf.underlying24 hi5 hz0 hz1 hz2 rfl (by decide) u0 n (xs.map (Value.int .u8)) rfl (own_drew (HX.out.alloc _)) ⟨wr.heap.size, 0, none⟩ 2 2 _ rfl rfl (World.news_of_block (heap_alloc_new _ _)) (by simp [Value.oneCell']) (by omega) (by unfold maxLen; omega) (by omega) (by have := HB.out.size; simp; omega) _ rfl ?_; intro g cap w1 hown hgrow hat hlt; have HY : Hid (OwnBs w1 w.heap.size (.slice (some ⟨g, 0, none⟩) (n + 2) cap) (n + 2)) := own_push2 hxs hown; have HZ : Hid (Below w.heap.size w w1) := own_grow ((HB.out.alloc HB.out.size _).drew) (by have := HB.out.size; simp; omega) (own_drew (HX.out.alloc _)) hgrow; clear hown hgrow hat hlt)
        all_goals
          go_wp2
          go_roundw
          case rel => exact ⟨1, n + 2, by omega, by omega, by omega, by rfl, HY.out, HZ.out⟩
          case measure => simp [intOf]
      · simp at hx
        go_upto_region 6 with fail
        obtain ⟨xs, hxs, hown⟩ := HO.out
        have HX : Hid (wr.ownsRow w.heap.size 5 1 u0 n (xs.map (Value.int .u8))) := hown
        clear hown
        go_region_law (refine step_append_lies _ rfl (.tmp 23) (.tmp 30) 24 rfl w.heap.size 5 i5 (.int .u8 0) 1 1 Ybaf.underlying24 hi5 hz0 hz1 hz2 rfl (by decide) u0 n (xs.map (Value.int .u8)) rfl (own_drew (HX.out.alloc _)) ⟨wr.heap.size, 0, none⟩ 2 2 _ rfl rfl (World.news_of_block (heap_alloc_new _ _)) (by simp [Value.oneCell']) (by omega) (by unfold maxLen; omega) (by omega) (by have := HB.out.size; simp; omega) _ rfl ?_; intro g cap w1 hown hgrow hat hlt; have HY : Hid (OwnBs w1 w.heap.size (.slice (some ⟨g, 0, none⟩) (n + 2) cap) (n + 2)) := own_push2 hxs hown; have HZ : Hid (Below w.heap.size w w1) := own_grow ((HB.out.alloc HB.out.size _).drew) (by have := HB.out.size; simp; omega) (own_drew (HX.out.alloc _)) hgrow; clear hown hgrow hat hlt)
        all_goals
          go_wp2
          go_roundw
          case rel => exact ⟨2, n + 2, by omega, by omega, by omega, by rfl, HY.out, HZ.out⟩
          case measure => simp [intOf]
      · simp at hx
        go_upto_region 6 with fail
        obtain ⟨xs, hxs, hown⟩ := HO.out
        have HX : Hid (wr.ownsRow w.heap.size 5 1 u0 n (xs.map (Value.int .u8))) := hown
        clear hown
        go_region_law (refine step_append_lies _ rfl (.tmp 23) (.tmp 30) 24 rfl w.heap.size 5 i5 (.int .u8 0) 1 1 Ybaf.underlying24 hi5 hz0 hz1 hz2 rfl (by decide) u0 n (xs.map (Value.int .u8)) rfl (own_drew (HX.out.alloc _)) ⟨wr.heap.size, 0, none⟩ 2 2 _ rfl rfl (World.news_of_block (heap_alloc_new _ _)) (by simp [Value.oneCell']) (by omega) (by unfold maxLen; omega) (by omega) (by have := HB.out.size; simp; omega) _ rfl ?_; intro g cap w1 hown hgrow hat hlt; have HY : Hid (OwnBs w1 w.heap.size (.slice (some ⟨g, 0, none⟩) (n + 2) cap) (n + 2)) := own_push2 hxs hown; have HZ : Hid (Below w.heap.size w w1) := own_grow ((HB.out.alloc HB.out.size _).drew) (by have := HB.out.size; simp; omega) (own_drew (HX.out.alloc _)) hgrow; clear hown hgrow hat hlt)
        all_goals
          go_wp2
          go_roundw
          case rel => exact ⟨3, n + 2, by omega, by omega, by omega, by rfl, HY.out, HZ.out⟩
          case measure => simp [intOf]
    · obtain rfl : k = 3 := by omega
      go_wp2
      go_ret
      exact ⟨_, n, rfl, HO.out, hn0, HB.out⟩

theorem own_str {w : World} {B n : Nat} {v : Value} (h : OwnBs w B v n) (hn : 0 < n) : ∃ s, (convert 24 9 v).run Ybaf.prog w = .ok (.string s) w := by
  obtain ⟨xs, hx, hown⟩ := h
  obtain ⟨g, cap, rfl, _, _⟩ := hown.form hn
  refine ⟨_, run_convert_bytes_arg w 24 5 Ybaf.underlying24 Ybaf.underlying5 g 0 n cap xs hx (fun i hi => ?_) 9 Ybaf.underlying9⟩
  rw [Nat.zero_add]
  have h1 := hown.cells (g := g) rfl i (.int .u8 (xs.getD i 0)) (by
    have : i < xs.length := by omega
    simp [List.getElem?_map, List.getElem?_eq_getElem this, List.getD])
  have hadd : (⟨g, 0, none⟩ : Addr).add i = ⟨g, i, none⟩ := by unfold Addr.add; split <;> simp_all
  rw [hadd] at h1
  exact h1

set_option maxRecDepth 100000 in
set_option maxHeartbeats 2000000 in
theorem appendTo_calls (T : Nat) (hT : T < 16777216) (w : World) :
    Calls Ybaf.prog 28 #[.int .u32 (T : Int), .slice none 0 0] w fun e w' => ∃ v n, e = .returned v ∧ OwnBs w' w.heap.size v n ∧ 0 < n ∧ Below w.heap.size w w' := by
  have hT' : (T : Int) < 4294967296 := by omega
  go_enter Ybaf.func28, Ybaf.ntmps28
  go_wp2_with (go_at_call 32; refine (hexWord_calls (T : Int) (by omega) (by omega) _).mono ?_; rintro e' w' ⟨v, n, rfl, hO, hn, hB⟩; have HX : Hid (OwnBs w' w.heap.size v n ∧ 0 < n ∧ Below w.heap.size w w') := ⟨hO, hn, hB⟩; clear hO hn hB)
  go_ret
  exact ⟨_, n, rfl, HX.out.1, HX.out.2.1, HX.out.2.2⟩

set_option maxRecDepth 100000 in
set_option maxHeartbeats 2000000 in
theorem string_calls (T : Nat) (hT : T < 16777216) (w : World) :
    Calls Ybaf.prog 22 #[.int .u32 (T : Int)] w fun e w' => (∃ s, e = .returned (.string s)) ∧ Below w.heap.size w w' := by
  go_enter Ybaf.func22, Ybaf.ntmps22
  go_wp2_with (go_at_call 28; refine (appendTo_calls T hT _).mono ?_; rintro e' w' ⟨v, n, rfl, hO, hn, hB⟩; obtain ⟨s, hs⟩ := own_str hO hn; have HX : Hid (Below w.heap.size w w') := hB; clear hO hB)
  go_ret
  exact ⟨⟨s, rfl⟩, HX.out⟩

set_option maxRecDepth 100000 in
set_option maxHeartbeats 2000000 in
theorem errorf3_calls (F : Interp) (fm : ByteArray) (hp : ∀ w : World, (FmtDoors.printed fm 3).run Ybaf.prog w = .ok [(0, 100, false), (1, 115, false), (2, 100, false)] w) (a0 a2 : Int) (T : Nat) (hT : T < 16777216) (b : Nat) (w : World) (hF : F.answers w.tape)
    (c0 : w.cell? ⟨b, 0, none⟩ = some (.iface 5 (.int .u8 a0))) (c1 : w.cell? ⟨b, 1, none⟩ = some (.iface 37 (.int .u32 (T : Int)))) (c2 : w.cell? ⟨b, 2, none⟩ = some (.iface 3 (.int .i64 a2))) :
    Calls Ybaf.prog 10 #[.string fm, .slice (some ⟨b, 0, none⟩) 3 3] w fun e w' => (∃ t x, e = .returned (.iface t x)) ∧ Below w.heap.size w w' := by
  have hb : b < w.heap.size := lt_of_cell c0
  have HF : Hid (F.answers w.tape) := hF
  have q1 := call16
  have q2 := guarded
  have q4 := act3
  have q5 := op3
  have q6 := act5
  have q7 := op5
  have q8 := ptrEs
  have q9 := elem66
  have q10 := act37
  have q11 := str37
  clear hF
  go_enter Ybaf.func10, Ybaf.ntmps10
  go_wp2
  apply rows_call nextTurns
  case hr =>
    go_simp
    exact ⟨⟨rfl, rfl, rfl⟩, rfl⟩
  case hi => exact invoke37 _ _
  case hc =>
    refine (string_calls T hT _).mono fun e w₃ ⟨he, hx⟩ => ?_
    obtain ⟨s, rfl⟩ := he
    have hF' := answers_open (show F.answers w₃.tape by rw [hx.tape]; exact HF.out)
    have c03 := (hx.cell (p := ⟨b, 0, none⟩) hb).trans c0
    have c13 := (hx.cell (p := ⟨b, 1, none⟩) hb).trans c1
    have c23 := (hx.cell (p := ⟨b, 2, none⟩) hb).trans c2
    have HX : Hid (Below w.heap.size w w₃) := hx
    clear hx
    apply rows_value nextReturned
    case hr =>
      go_simp
      exact ⟨rfl, rfl⟩
    case h =>
      go_wp2
      go_ret
      exact ⟨⟨_, _, rfl⟩, (HX.out.alloc HX.out.size _).drew⟩
end Go.Proofs.YbulkdycwFmt
