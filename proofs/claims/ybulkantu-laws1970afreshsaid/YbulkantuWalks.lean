/-
  DERIVED. THE WALKS of LawS1970AFresh's callees.
-/
import Derived.Test.YbulkantuRows
import Derived.WalkKit
import Derived.ProofKit
import Derived.WalkSpells
import Derived.WalkLawsBesides
import Derived.Below
import Derived.OneCell
import Derived.Maps.OwnSet
import Derived.DeepKeys5
namespace Go.Proofs.Ybulkantu
open Go.RowKit

theorem hide {p : Prop} (h : p) : Hid p := h
theorem laidOut : laidOutB Yba.prog = true := by kernel_rfl
theorem keyed49 : Maps.Keyed Yba.prog 49 := Maps.Keyed.of_law (deep_law_gate laidOut (of_decide_eq_true (by kernel_rfl)) (of_decide_eq_true (by kernel_rfl)) (by kernel_rfl) (by kernel_rfl))
theorem keyed9 : Maps.Keyed Yba.prog 9 := Maps.string_keyed Yba.underlying9

theorem key_pair (c s : ByteArray) (hc : c.size ≤ maxLen) (hs : s.size ≤ maxLen) : ∃ kl, keyOf Yba.prog 49 (.agg #[.string c, .string s]) = some kl := by
  have c49 : Yba.prog.cellsOf 49 = 2 := by kernel_rfl
  have c9 : Yba.prog.cellsOf 9 = 1 := by kernel_rfl
  have k49 : Yba.prog.keyType 49 = true := by kernel_rfl
  obtain ⟨n, hn⟩ : ∃ n, Yba.prog.types.size = n + 1 := ⟨_, rfl⟩
  refine Option.isSome_iff_exists.1 ?_
  unfold keyOf
  rw [Yba.underlying49]
  simp only [k49, Value.formed, Yba.underlying49, c49, Bool.true_and, hn]
  simp [Program.keyLits, Yba.underlying49, Yba.underlying9, c49, c9, hc, hs, Value.cells]

/-- How an element reads here: as nothing in particular. -/
def anyElem (_ : Value) : Option (DataW Unit × List MemPlace) := some (.lit (.bool true), [])

/-- a recordSet's cells -/
def rsCells (bm : Nat) (p : Option Addr) : Array Value :=
  #[.map (some bm), .slice none 0 0, .slice none 0 0, .slice none 0 0, .slice none 0 0, .slice none 0 0, .slice none 0 0, .map none, .map none, .map none, .int .u64 0, .string ⟨#[]⟩, .int .u64 0, .pointer p, .map none, .map none]

theorem new_any (w : World) : Calls Yba.prog 9 #[] w fun e w' => e = .returned (.pointer (some ⟨w.heap.size + 1, 0, none⟩)) ∧ w' = (w.alloc (.map #[] 0)).alloc (.cells (rsCells w.heap.size none) 44) := by
  have hmm := @run_makeMap Yba.prog
  go_enter Yba.func9, Yba.ntmps9
  go_wp2
  go_ret
  exact ⟨rfl, rfl⟩

theorem layer_any (p : Option Addr) (w : World) : Calls Yba.prog 6 #[.pointer p] w fun e w' => e = .returned (.pointer (some ⟨w.heap.size + 1, 0, none⟩)) ∧ w' = (w.alloc (.map #[] 0)).alloc (.cells (rsCells w.heap.size p) 44) := by
  have H := hide (new_any w)
  go_enter Yba.func6, Yba.ntmps6
  go_wp2_with (go_at_call 9; refine H.out.mono ?_; rintro e w' ⟨rfl, rfl⟩)
  go_ret
  exact ⟨rfl, rfl⟩

theorem empty_any (w : World) : Calls Yba.prog 7 #[.agg #[.slice none 0 0, .slice none 0 0]] w fun e w' => e = .returned (.bool true) ∧ w' = w.alloc (.cells #[.slice none 0 0, .slice none 0 0] 29) := by
  have q26 : ∀ (w : World) (a : Option Addr) (n c n' c' : Nat), (binOp .eql 26 (.slice a n c) (.slice none n' c')).run Yba.prog w = .ok (.bool a.isNone) w := fun w a n c n' c' => Lib.run_eql_slice_nil w _ _ a n c n' c' Yba.underlying26
  have q27 : ∀ (w : World) (a : Option Addr) (n c n' c' : Nat), (binOp .eql 27 (.slice a n c) (.slice none n' c')).run Yba.prog w = .ok (.bool a.isNone) w := fun w a n c n' c' => Lib.run_eql_slice_nil w _ _ a n c n' c' Yba.underlying27
  go_enter Yba.func7, Yba.ntmps7
  go_wp2
  go_ret
  exact ⟨rfl, rfl⟩
end Go.Proofs.Ybulkantu
