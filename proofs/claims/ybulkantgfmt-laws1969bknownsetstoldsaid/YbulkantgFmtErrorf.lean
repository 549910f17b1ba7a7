/-
  DERIVED. fmt.Errorf AT THE TWO FORMATS OF notTaken, BY CONTRACTS: for every F that answers the stop.
-/
import Derived.Test.YbulkantgFmtWalks0
namespace Go.Proofs.YbulkantgFmt
open Go.RowKit Go.Extern.Stop Go.Stop Go.Extern
attribute [local go_sem] Ybaf.call8 Ybaf.guard Ybaf.act26_115w Ybaf.isString26 Ybaf.str26 Ybaf.act9_115w Ybaf.op9_115w Ybaf.str9 Ybaf.ptr41 Ybaf.elem41 Ybaf.isError41 Ybaf.fmtA Ybaf.fmtAr Ybaf.fmtB Ybaf.fmtBr

theorem Laid.below {w w' : World} (h : Laid w) (hb : Below w.heap.size w w') : Laid w' := by
  refine ⟨fun i => ?_, ?_⟩
  · have h0 : w.cell? ⟨0, 0, none⟩ = kindCells[0]? := h.kinds 0
    have hlt : 0 < w.heap.size := World.block_lt_of_cell? w ⟨0, 0, none⟩ (u := .string ⟨#[]⟩) (by rw [h0]; rfl)
    rw [hb.cell (p := ⟨0, i, none⟩) hlt]
    exact h.kinds i
  · have hp : w.var? Ybaf.prog Ybaf.powName = some (Lib.pow10Tab.map fun z => Value.int .u64 z).toArray := h.pow
    exact var?_below (g := 2) hb (by kernel_rfl) (by
      unfold World.var? at hp
      rw [show Ybaf.prog.globalNamed Ybaf.powName = some 2 by kernel_rfl] at hp
      simp only [Option.bind_some] at hp
      rcases Nat.lt_or_ge 2 w.heap.size with hlt | hge
      · exact hlt
      · rw [Array.getElem?_eq_none hge] at hp; simp at hp) hp

set_option maxHeartbeats 800000 in
theorem errorf_A (F : Interp) (k : Int) (b : Nat) (w : World) (hF : F.answers w.tape) (hl : Laid w) (h0 : 0 ≤ k) (h1 : k ≤ 255) (hc : w.cell? ⟨b, 0, none⟩ = some (.iface 26 (.int .u8 k))) :
    Calls Ybaf.prog 6 #[.string Ybaf.formA, .slice (some ⟨b, 0, none⟩) 1 1] w fun e w' => ∃ a, e = .returned (.iface 41 (.pointer (some a))) ∧ Below w.heap.size w w' := by
  have hF' := answers_open hF
  have hb : b < w.heap.size := World.block_lt_of_cell? w ⟨b, 0, none⟩ hc
  have HL := hide hl
  clear hl
  go_enter Ybaf.func6, Ybaf.ntmps6
  go_wp2
  apply rows_call Ybaf.nextTurns
  case hr =>
    go_simp
    exact ⟨⟨rfl, rfl, rfl⟩, rfl⟩
  case hi => exact Ybaf.invokeString26 _ _
  case hc =>
    refine (string_any k h0 h1 _ HL.out).mono fun e w₃ ⟨s, he, hx⟩ => ?_
    subst he
    have hF3 := answers_open (show F.answers w₃.tape by rw [hx.tape]; exact hF)
    have hc03 : w₃.cell? ⟨b, 0, none⟩ = some (.iface 26 (.int .u8 k)) := by rw [hx.cell (p := ⟨b, 0, none⟩) hb]; exact hc
    apply rows_value Ybaf.nextReturned
    case hr =>
      go_simp
      exact ⟨rfl, rfl⟩
    case h =>
      go_wp2
      go_ret
      exact ⟨_, rfl, (hx.alloc hx.size _).drew⟩

set_option maxHeartbeats 800000 in
theorem errorf_B (F : Interp) (k : Int) (t : ByteArray) (b : Nat) (w : World) (hF : F.answers w.tape) (hl : Laid w) (h0 : 0 ≤ k) (h1 : k ≤ 255) (hc : w.cell? ⟨b, 0, none⟩ = some (.iface 26 (.int .u8 k)))
    (hd : w.cell? ⟨b, 1, none⟩ = some (.iface 9 (.string t))) :
    Calls Ybaf.prog 6 #[.string Ybaf.formB, .slice (some ⟨b, 0, none⟩) 2 2] w fun e w' => ∃ a, e = .returned (.iface 41 (.pointer (some a))) ∧ Below w.heap.size w w' := by
  have hF' := answers_open hF
  have hb : b < w.heap.size := World.block_lt_of_cell? w ⟨b, 0, none⟩ hc
  have HL := hide hl
  clear hl
  go_enter Ybaf.func6, Ybaf.ntmps6
  go_wp2
  apply rows_call Ybaf.nextTurns
  case hr =>
    go_simp
    exact ⟨⟨rfl, rfl, rfl⟩, rfl⟩
  case hi => exact Ybaf.invokeString26 _ _
  case hc =>
    refine (string_any k h0 h1 _ HL.out).mono fun e w₃ ⟨s, he, hx⟩ => ?_
    subst he
    have hF3 := answers_open (show F.answers w₃.tape by rw [hx.tape]; exact hF)
    have hc03 : w₃.cell? ⟨b, 0, none⟩ = some (.iface 26 (.int .u8 k)) := by rw [hx.cell (p := ⟨b, 0, none⟩) hb]; exact hc
    have hc13 : w₃.cell? ⟨b, 1, none⟩ = some (.iface 9 (.string t)) := by rw [hx.cell (p := ⟨b, 1, none⟩) hb]; exact hd
    apply rows_value Ybaf.nextReturned
    case hr =>
      go_simp
      exact ⟨rfl, rfl⟩
    case h =>
      go_wp2
      go_ret
      exact ⟨_, rfl, (hx.alloc hx.size _).drew⟩
end Go.Proofs.YbulkantgFmt
