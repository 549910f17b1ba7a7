/-
  DERIVED. THE ITERATOR '(kindSet).all' AND ITS CLOSURE.
-/
import Derived.Test.YbulkantgFmtErrorf
import Derived.RangeFuncNested
import Derived.RangeFuncBound
import Derived.RangeFuncCalls
import Derived.RangeFuncLeaves
import Derived.RangeFuncBox
import Derived.Shelf.Abstract
import Derived.Shelf.RegionOpen
import Derived.OwnWalkIn
import Derived.TacticsInMore
import Derived.LoopNIn
import Derived.LoopIn
import Derived.Maps.AppendAt
namespace Go.Proofs.YbulkantgFmt
open Go.RowKit Go.Shelf
attribute [local go_sem] Oper.semAt_some

/-- Is the Kind k in the set s? In the walk's own form. -/
def hasB (s : Int) : Nat → Bool
  | 0 => bits BinOp.and IntKind.u32 s 1 != 0
  | 1 => bits BinOp.and IntKind.u32 s 2 != 0
  | 2 => bits BinOp.and IntKind.u32 s 4 != 0
  | 3 => bits BinOp.and IntKind.u32 s 8 != 0
  | 4 => bits BinOp.and IntKind.u32 s 16 != 0
  | 5 => bits BinOp.and IntKind.u32 s 32 != 0
  | _ => bits BinOp.and IntKind.u32 s 64 != 0

set_option maxHeartbeats 400000 in
theorem has_any (s k : Int) (h0 : 0 ≤ k) (h1 : k ≤ 6) (w : World) :
    Calls Ybaf.prog 16 #[.int .u32 s, .int .u8 k] w fun e w' => e = .returned (.bool (hasB s k.toNat)) ∧ w' = w := by
  rcases (show k = 0 ∨ k = 1 ∨ k = 2 ∨ k = 3 ∨ k = 4 ∨ k = 5 ∨ k = 6 from by omega) with rfl | rfl | rfl | rfl | rfl | rfl | rfl
  all_goals
    go_enter Ybaf.func16, Ybaf.ntmps16
    go_wp2
    go_ret
    exact ⟨rfl, rfl⟩

abbrev K6 := { k : Nat // k ≤ 6 }
/-- The Kinds of the set s below k. -/
def kindsTo (s : Int) : Nat → List K6
  | 0 => []
  | k + 1 => kindsTo s k ++ (if h : k ≤ 6 ∧ hasB s k = true then [⟨k, h.1⟩] else [])
theorem kindsTo_len (s : Int) : ∀ k, (kindsTo s k).length ≤ k
  | 0 => Nat.le_refl _
  | k + 1 => by
    have := kindsTo_len s k
    simp only [kindsTo, List.length_append]
    split <;> simp <;> omega
theorem kindsTo_hit (s : Int) (k : Nat) (hk : k ≤ 6) (h : hasB s k = true) : kindsTo s (k + 1) = kindsTo s k ++ [⟨k, hk⟩] := by
  simp only [kindsTo]; rw [dif_pos ⟨hk, h⟩]
theorem kindsTo_miss (s : Int) (k : Nat) (h : hasB s k = false) : kindsTo s (k + 1) = kindsTo s k := by
  simp only [kindsTo]; rw [dif_neg (by simp [h])]; simp

/-- What a round must keep: the set's box. -/
def KeepsBox (B : Nat) (W W' : World) : Prop := W'.cell? ⟨B, 0, none⟩ = W.cell? ⟨B, 0, none⟩

set_option maxRecDepth 100000 in
set_option maxHeartbeats 1000000 in
theorem all1_in (F : Fence) (HW : Hid (F = Fence.wide)) (hfn : ∀ f, F.fn f) (hro : F.round = none) (n : Nat) (hn : 2 ≤ n) (l B : Nat) (s : Int) (J Jx : List K6 → World → Prop)
    (hY : ∀ pre (x : K6) W, J pre W → pre.length < 7 → YieldAt F (n - 1) Ybaf.prog l #[.int .u8 x.1] W fun e W' =>
      (e = .returned (.bool true) ∧ J (pre ++ [x]) W' ∧ KeepsBox B W W') ∨ (e = .returned (.bool false) ∧ Jx (pre ++ [x]) W'))
    (W : World) (hB : W.cell? ⟨B, 0, none⟩ = some (.int .u32 s)) (h0 : J [] W) :
    CallsIn F n Ybaf.prog 15 #[.func (.yield l) #[] #[], .pointer (some ⟨B, 0, none⟩)] W fun e W' => (∃ v, e = .returned v) ∧
      ((∃ ys, ys = kindsTo s 7 ∧ J ys W') ∨ (∃ pre, True ∧ Jx pre W')) := by
  have hn1 : 1 ≤ n := by omega
  refine callsIn_of_wp Ybaf.func15 rfl (hfn _) ?_ hro
  simp only [Ybaf.ntmps15, List.size_toArray, List.length_cons, List.length_nil, Nat.reduceAdd, Nat.reduceSub, Array.replicate_succ, Array.replicate_zero, List.push_toArray, List.append_toArray, List.nil_append, List.cons_append]
  gi_wp2
  gi_loopw [4] (fun i wr => ∃ k : Nat, k ≤ 7 ∧ i = .int .u8 k ∧ J (kindsTo s k) wr ∧ wr.cell? ⟨B, 0, none⟩ = some (.int .u32 s))
    (fun i _ => 7 - (intOf i).toNat)
  case atStart => exact ⟨0, by omega, rfl, h0, hB⟩
  case round =>
    obtain ⟨k, hk, rfl, hJs, hBs⟩ := hrel
    by_cases hlt : k < 7
    · cases hh : hasB s k with
      | true =>
        obtain ⟨fn, tmps, assign, body, hy, hR⟩ := hY _ ⟨k, by omega⟩ wr hJs (by have := kindsTo_len s k; omega)
        have hc : Hid (CallsIn F (n - 1) Ybaf.prog 16 #[.int .u32 s, .int .u8 k] wr fun e w' => e = .returned (.bool true) ∧ w' = wr) := by
          have := has_any s k (by omega) (by omega) wr
          rw [Int.toNat_natCast, hh] at this
          rw [HW.out]
          exact callsIn_wide.2 this
        have HH : Hid (hasB s k = true) := hh
        clear hh
        gi_wp2_with (gi_at_call 16; refine hc.out.mono ?_; rintro e w' ⟨rfl, rfl⟩)
        refine hR.mono ?_
        have hk6 : k ≤ 6 := by omega
        rintro e W3 (⟨rfl, hJ3, hk3⟩ | ⟨rfl, hJx3⟩)
        · have hB3 : W3.cell? ⟨B, 0, none⟩ = some (.int .u32 s) := hk3.trans hBs
          gi_wp2
          go_roundw
          case rel => exact ⟨k + 1, by omega, by go_num, by rw [kindsTo_hit s k hk6 HH.out]; exact hJ3, hB3⟩
          case measure => simp [intOf]; omega
        · gi_wp2
          refine bodyPost_ret (results_none rfl _ _ _) rfl ?_
          exact ⟨⟨_, rfl⟩, .inr ⟨_, trivial, hJx3⟩⟩
      | false =>
        have hc : Hid (CallsIn F (n - 1) Ybaf.prog 16 #[.int .u32 s, .int .u8 k] wr fun e w' => e = .returned (.bool false) ∧ w' = wr) := by
          have := has_any s k (by omega) (by omega) wr
          rw [Int.toNat_natCast, hh] at this
          rw [HW.out]
          exact callsIn_wide.2 this
        have HH : Hid (hasB s k = false) := hh
        clear hh
        gi_wp2_with (gi_at_call 16; refine hc.out.mono ?_; rintro e w' ⟨rfl, rfl⟩)
        go_roundw
        case rel => exact ⟨k + 1, by omega, by go_num, by rw [kindsTo_miss s k HH.out]; exact hJs, hBs⟩
        case measure => simp [intOf]; omega
    · obtain rfl : k = 7 := by omega
      gi_wp2
      go_end0
      exact ⟨⟨_, rfl⟩, .inl ⟨_, rfl, hJs⟩⟩

/-- s.all(): the receiver is boxed; the function value captures the box. -/
theorem all_in (F : Fence) (n : Nat) (hfn : ∀ f, F.fn f) (hro : F.round = none) (s : Int) (w : World) :
    CallsIn F n Ybaf.prog 11 #[.int .u32 s] w fun e w' => e = .returned (.func (.func 15) #[] #[.pointer (some ⟨w.heap.size, 0, none⟩)]) ∧ w' = w.alloc (.cells #[.int .u32 s] 27) := by
  refine callsIn_of_wp Ybaf.func11 rfl (hfn _) ?_ hro
  simp only [Ybaf.ntmps11, List.size_toArray, List.length_cons, List.length_nil, Nat.reduceAdd, Nat.reduceSub, Array.replicate_succ, Array.replicate_zero, List.push_toArray, List.append_toArray, List.nil_append, List.cons_append]
  gi_wp2
  go_ret
  exact ⟨rfl, rfl⟩

theorem all_stops (F : Fence) (HW : Hid (F = Fence.wide)) (hfn : ∀ f, F.fn f) (hro : F.round = none) (n : Nat) (hn : 2 ≤ n) (B : Nat) (s : Int) (w : World) (hB : B < w.heap.size) (hc : w.cell? ⟨B, 0, none⟩ = some (.int .u32 s)) :
    SeqStopsK F n Ybaf.prog 15 #[.pointer (some ⟨B, 0, none⟩)] (fun x : K6 => #[Value.int .u8 x.1]) (KeepsBox B) (fun ys => ys = kindsTo s 7) (fun _ => True) 7 w := fun l J Jx W hW _ _ hY h0 =>
  all1_in F HW hfn hro n hn l B s J Jx hY W ((hW.cell (p := ⟨B, 0, none⟩) hB).trans hc) h0
theorem keepsBox_t {B : Nat} {X Y Z : World} (h : KeepsBox B X Y) (k : KeepsBox B Y Z) : KeepsBox B X Z := Eq.trans k h
theorem keepsBox_b {B : Nat} {w : World} (hn : B < w.heap.size) (W : World) (l : Nat) (o o' : Obj) (hl : w.heap.size ≤ l) (_ : W.heap[l]? = some o) (_ : o.isCells = false) (_ : o.isWalk = false) : KeepsBox B W (W.putObj l o') :=
  World.cell?_of_block (w := W) (World.putObj_heap_other (by simp; omega))
end Go.Proofs.YbulkantgFmt
