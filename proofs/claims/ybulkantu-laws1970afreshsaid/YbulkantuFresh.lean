/-
  DERIVED. LawS1970AFresh: the walk.
-/
import Derived.Test.YbulkantuBuild
import Derived.LaidEqlPtr
import Derived.Lib.Builder
namespace Go.Proofs.Ybulkantu
open Go.RowKit
attribute [local go_sem] rsCells

set_option maxHeartbeats 400000 in
theorem fresh_long (a : Option Addr) (len cap : Nat) (dep : Int) (w : World) (hlen : 1024 < len) (hm : len ≤ 9223372036854775807) :
    Calls Yba.prog 3 #[.slice a len cap, .int .u8 dep] w fun e w' => e = .returned (.bool true) ∧ Below w.heap.size w w' := by
  go_enter Yba.func3, Yba.ntmps3
  go_wp2
  go_ret
  exact ⟨rfl, Below.refl _ _⟩

/-- 'len(m)' of a map whose block is known. -/
theorem len_map (W : World) (bm : Nat) (es : Array MapEntry) (clock : Nat) (h : W.heap[bm]? = some (.map es clock)) : (Builtin.len_ #[25] 3 #[.map (some bm)]).run Yba.prog W = .ok (.int .i64 es.size) W := by
  simp [Builtin.len_, run_underlying Yba.underlying25, MapKept.run_getObj_map h, goInt, Result.andThen]

set_option maxHeartbeats 1000000 in
theorem fresh_main (a : Option Addr) (len cap : Nat) (dep : Int) (w : World) (hlen : len ≤ 1024) (h0 : 0 ≤ dep) (h1 : dep ≤ 255)
    (hc : ∀ i, i < len → ∃ b off s, a = some ⟨b, off, none⟩ ∧ w.cell? ⟨b, off + i, none⟩ = some (.string s) ∧ s.size ≤ maxLen) :
    Calls Yba.prog 3 #[.slice a len cap, .int .u8 dep] w fun e w' => e = .returned (.bool true) ∧ Below w.heap.size w w' := by
  have HB := hide (build_any a len cap dep w hlen h0 h1 hc)
  have HE := hide empty_any
  have q25 : ∀ (w : World) (r : Option Nat), (binOp .eql 25 (.map r) (.map none)).run Yba.prog w = .ok (.bool r.isNone) w := fun w r => run_eql_map_nil w _ _ _ r Yba.underlying25
  have q30 : ∀ (w : World) (r : Option Nat), (binOp .neq 30 (.map r) (.map none)).run Yba.prog w = .ok (.bool (!r.isNone)) w := fun w r => run_neq_map_nil w _ _ _ r Yba.underlying30
  have q33 : ∀ (w : World) (r : Option Nat), (binOp .neq 33 (.map r) (.map none)).run Yba.prog w = .ok (.bool (!r.isNone)) w := fun w r => run_neq_map_nil w _ _ _ r Yba.underlying33
  have q34 : ∀ (w : World) (r : Option Nat), (binOp .neq 34 (.map r) (.map none)).run Yba.prog w = .ok (.bool (!r.isNone)) w := fun w r => run_neq_map_nil w _ _ _ r Yba.underlying34
  have q41 : ∀ (w : World) (r : Option Nat), (binOp .neq 41 (.map r) (.map none)).run Yba.prog w = .ok (.bool (!r.isNone)) w := fun w r => run_neq_map_nil w _ _ _ r Yba.underlying41
  have q42 : ∀ (w : World) (r : Option Nat), (binOp .neq 42 (.map r) (.map none)).run Yba.prog w = .ok (.bool (!r.isNone)) w := fun w r => run_neq_map_nil w _ _ _ r Yba.underlying42
  clear hc
  go_enter Yba.func3, Yba.ntmps3
  go_wp2_with fail
  refine HB.out.mono ?_
  rintro e w1 ⟨b, bm, k, p, rfl, hk, hat⟩
  obtain ⟨D, es, clock, hm, F, hes, hD⟩ := hat.map
  have hcl := hat.cells
  have hblt := lt_of_block hcl
  have hmlt := lt_of_block hm
  have c13 : w1.cell? ⟨b, 13, none⟩ = some (.pointer p) := by rw [cell_of_row w1 b 13 _ 44 (0, 0) hcl]; rfl
  have c0 : w1.cell? ⟨b, 0, none⟩ = some (.map (some bm)) := by rw [cell_of_row w1 b 0 _ 44 (0, 0) hcl]; rfl
  have HA := hide hat
  have e1 := len_map w1 bm es clock hm
  have e2 : ∀ o1 o2 o3 o4 o5, (Builtin.len_ #[25] 3 #[.map (some bm)]).run Yba.prog (((((w1.alloc o1).alloc o2).alloc o3).alloc o4).alloc o5) = .ok (.int .i64 es.size) (((((w1.alloc o1).alloc o2).alloc o3).alloc o4).alloc o5) := fun o1 o2 o3 o4 o5 =>
    len_map _ bm es clock (by rw [Below.heap_alloc _ _ _ (by simp; omega), Below.heap_alloc _ _ _ (by simp; omega), Below.heap_alloc _ _ _ (by simp; omega), Below.heap_alloc _ _ _ (by simp; omega), Below.heap_alloc _ _ _ hmlt]; exact hm)
  have e3 : ∀ o2, (Builtin.len_ #[25] 3 #[.map (some w1.heap.size)]).run Yba.prog ((w1.alloc (.map #[] 0)).alloc o2) = .ok (.int .i64 0) ((w1.alloc (.map #[] 0)).alloc o2) := fun o2 =>
    len_map _ w1.heap.size #[] 0 (by rw [Below.heap_alloc _ _ _ (by simp)]; exact heap_alloc_new _ _)
  obtain ⟨i44, hi44, hz44⟩ : ∃ i, Yba.prog.info? 44 = some i ∧ i.size = 16 := Option.map_eq_some_iff.1 (show (Yba.prog.info? 44).map (·.size) = some 16 by kernel_rfl)
  have e4 : ∀ W : World, (binOp .eql 23 (.pointer p) (.pointer p)).run Yba.prog W = .ok (.bool true) W := fun W => by
    cases p with
    | none => exact run_eql_pointer_nil W 23 none Yba.underlying23
    | some a => exact run_eql_ptr_same W a Yba.underlying23 hi44
  have e5 : ∀ W : World, (binOp .neq 23 (.pointer (some ⟨b, 0, none⟩)) (.pointer (some ⟨b, 0, none⟩))).run Yba.prog W = .ok (.bool false) W := fun W => Lib.run_neq_ptr_same W _ Yba.underlying23 hi44
  have e6 : ∀ cs, (binOp .eql 23 (.pointer (some ⟨w1.heap.size + 1, 0, none⟩)) (.pointer (some ⟨b, 0, none⟩))).run Yba.prog ((w1.alloc (.map #[] 0)).alloc (.cells cs 44)) = .ok (.bool false) ((w1.alloc (.map #[] 0)).alloc (.cells cs 44)) := fun cs =>
    run_eql_ptr_other _ Yba.underlying23 hi44 (by omega) (by intro h; have h2 : w1.heap.size + 1 = b := congrArg Addr.block h; omega) (ta := 44) (tb := 44) (by have := heap_alloc_new (w1.alloc (.map #[] 0)) (.cells cs 44); rwa [World.size_alloc] at this) (by rw [Below.heap_alloc _ _ _ (by simp; omega), Below.heap_alloc _ _ _ hblt]; exact hcl)
  have e7 : ∀ (i : Nat) (o1 o2 o3 o4 o5 : Obj), (((((w1.alloc o1).alloc o2).alloc o3).alloc o4).alloc o5).cell? ⟨b, i, none⟩ = w1.cell? ⟨b, i, none⟩ := fun i o1 o2 o3 o4 o5 =>
    World.cell?_of_block (by rw [Below.heap_alloc _ _ _ (by simp; omega), Below.heap_alloc _ _ _ (by simp; omega), Below.heap_alloc _ _ _ (by simp; omega), Below.heap_alloc _ _ _ (by simp; omega), Below.heap_alloc _ _ _ hblt])
  clear hat hcl hD F hm
  go_wp2_with (first | (go_at_call 6; refine (layer_any _ _).mono ?_; rintro e w' ⟨rfl, rfl⟩) | (go_at_call 7; refine (HE.out _).mono ?_; rintro e w' ⟨rfl, rfl⟩))
  go_ret
  have hs := HA.out.below.size
  exact ⟨rfl, ((((HA.out.below.alloc hs _).alloc (by simp; omega) _).alloc (by simp; omega) _).alloc (by simp; omega) _).alloc (by simp; omega) _⟩
end Go.Proofs.Ybulkantu
