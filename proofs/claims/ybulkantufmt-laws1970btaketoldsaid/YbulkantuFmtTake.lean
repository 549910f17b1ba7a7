/-
  DERIVED. THE WALK of take.
-/
import Derived.Test.YbulkantuFmtState
import Derived.BigQuiet
import Derived.Deep.QuietTactic
namespace Go.Proofs.YbulkantuFmt
open Go.RowKit Go.Extern.Stop Go.Stop Go.Extern

set_option maxRecDepth 100000 in
theorem take_away (F : Interp) (W : World) (B : Nat) (mi : Bool) (ch : Int) (d : Nat → Dev) (ls : Nat → Bool) (cv : Nat → Value) (j : Nat) (mk : Int) (i : Nat) (seq stamp dig : Int) (R : Rd W B mi ch d ls cv (some j) mk) (hF : F.answers W.tape) (hi : i < 3) (hj : j < 3) (hij : i ≠ j) :
    Calls Ybaf.prog 6 #[.pointer (some ⟨B + 3, 0, none⟩), .agg (lineCells i seq stamp dig)] W fun e w' => ∃ a, e = .returned (.iface 83 (.pointer (some a))) ∧ Below W.heap.size W w' := by
  unfold lineCells
  go_enter Ybaf.func6, Ybaf.ntmps6
  go_wp2_with fail
  generalize hW1 : W.alloc _ = W1
  have line : W1.heap[W.heap.size]? = some (.cells (lineCells i seq stamp dig) 55 (0, 0)) := by rw [← hW1]; exact heap_alloc_new W _
  have hb1 : Below W.heap.size W W1 := by rw [← hW1]; exact (Below.refl _ W).alloc (Nat.le_refl _) _
  clear hW1
  obtain ⟨c0, c3, c4, c16, c17, c18, c19⟩ := (R.below hb1).cells (Below.refl _ W1)
  obtain ⟨g0, g1, g2, g13⟩ := line_cells line (Below.refl _ W1)
  have hne := nm_apart hi hj hij
  simp only [devName] at c3
  have HB := hide hb1
  have HT := hide (show F.answers W1.tape by rw [hb1.tape]; exact hF)
  clear hb1 R line hF
  go_quiet (fail)
  go_wp2_with fail
  refine (end_some F (B + 3) j _ (by exact HT.out) (by exact c3)).mono ?_
  rintro e w2 ⟨a, rfl, hb2⟩
  have HB2 := hide hb2
  clear hb2
  go_wp2_with fail
  go_ret
  exact ⟨a, rfl, (below_drewN HB.out _).trans (HB2.out.mono HB.out.size)⟩
end Go.Proofs.YbulkantuFmt
