/-
  DERIVED. THE LAW's ARGUMENTS, opened.
-/
import Derived.Test.YbulkantuFmtSteps
import Derived.Test.YbulkantuFmtRows
import Derived.ProofKit
import Derived.LaidMore
import Derived.OpenShut
import Derived.OpenVars
import Derived.MakeChecks
import Derived.Lib.SmallJoins
import Derived.Deep.Slices
import Derived.Stop.Joined
import Derived.Stop.JoinedTold
import Derived.Deep.DeepWitnessRef
namespace Go.Proofs.YbulkantuFmt
open Go.ChangeShapes Go.WideShapes Go.ChangeAt Go.RowKit

theorem own : ownKnob Ybaf.prog.godebug = none := by kernel_rfl
theorem laidOut : laidOutB Ybaf.prog = true := by kernel_rfl

/-- One step, opened. -/
theorem step_of {H : Type} {enc : TypeId × Value → H} {W : World} {base fuel : Nat} {sp : Nat → Bool} {held : Bool} {cs : List Value} {x : DataW H × List MemPlace} (h : DataW.trod enc Ybaf.prog W base sp held fuel 40 cs = some x) :
    ∃ t : Int × Int × Int × Int, cs = [.int .u8 t.1, .int .u64 t.2.1, .int .u64 t.2.2.1, .int .u8 t.2.2.2] ∧ (0 ≤ t.1 ∧ t.1 ≤ 255) ∧ (0 ≤ t.2.2.2 ∧ t.2.2.2 ≤ 255) := by
  obtain ⟨y0, y1, y2, y3, n, _, hl, h0, h1, h2, h3⟩ := Joins.trod_struct4 Ybaf.underlying40 h
  have c40 : Ybaf.prog.cellsOf 40 = 4 := by kernel_rfl
  have c5 : Ybaf.prog.cellsOf 5 = 1 := by kernel_rfl
  have c32 : Ybaf.prog.cellsOf 32 = 1 := by kernel_rfl
  rw [c40] at hl
  match cs, hl with
  | [a, b, c, d], _ =>
    simp only [c5, c32] at h0 h1 h2 h3
    obtain ⟨D, hD, _, wD⟩ := DataW.trod_int Ybaf.underlying5 h0
    obtain ⟨Q, hQ, _, _⟩ := DataW.trod_int Ybaf.underlying32 h1
    obtain ⟨S, hS, _, _⟩ := DataW.trod_int Ybaf.underlying32 h2
    obtain ⟨G, hG, _, wG⟩ := DataW.trod_int Ybaf.underlying5 h3
    simp at hD hQ hS hG
    subst hD hQ hS hG
    have b1 := bounds_u8 wD
    have b2 := bounds_u8 wG
    exact ⟨(D, Q, S, G), rfl, by omega, by omega⟩

theorem steps_of {H : Type} {enc : TypeId × Value → H} {W : World} {base fuel : Nat} {a : Option Addr} {len cap : Nat} {x : DataW H × List MemPlace} (h : DataW.trod enc Ybaf.prog W base (fun _ => true) true fuel 22 (Value.slice a len cap).cells.toList = some x) :
    len ≤ 9223372036854775807 ∧ ∃ D Q S G, Steps W a len D Q S G := by
  have c40 : Ybaf.prog.cellsOf 40 = 4 := by kernel_rfl
  rcases Deep.open_slice Ybaf.underlying22 h with ⟨hcs, _⟩ | ⟨x, l, c, m, f, D, Pl, hcs, _, hl, hm, hmm, _, hx⟩
  · simp [Value.cells] at hcs
    obtain ⟨rfl, rfl, rfl⟩ := hcs
    exact ⟨by omega, fun _ => 0, fun _ => 0, fun _ => 0, fun _ => 0, ⟨fun i hi => by omega, fun i hi => by omega, fun i hi => by omega⟩⟩
  · simp [Value.cells] at hcs
    obtain ⟨rfl, rfl, rfl⟩ := hcs
    simp only [if_true] at hmm
    rw [c40] at hx
    have each : ∀ i, i < len → ∃ t : Int × Int × Int × Int, W.cells? base (x.add (i * 4)) 4 = some [.int .u8 t.1, .int .u64 t.2.1, .int .u64 t.2.2.1, .int .u8 t.2.2.2] ∧ (0 ≤ t.1 ∧ t.1 ≤ 255) ∧ (0 ≤ t.2.2.2 ∧ t.2.2.2 ≤ 255) := fun i hi => by
      obtain ⟨cs', h1, h2⟩ := hx i (by omega)
      obtain ⟨t, rfl, r⟩ := step_of h2
      exact ⟨t, h1, r⟩
    obtain ⟨T, hT⟩ := Deep.choose_lt each
    unfold maxLen at hm
    refine ⟨by omega, fun i => (T i).1, fun i => (T i).2.1, fun i => (T i).2.2.1, fun i => (T i).2.2.2, ⟨fun i hi => ?_, fun i hi => (hT i hi).2.1, fun i hi => (hT i hi).2.2⟩⟩
    have hc0 := (World.cells?_some (hT 0 (by omega)).1).2.2 0 (by omega)
    have hci := (World.cells?_some (hT i hi).1).2.2
    obtain ⟨b, off, spot⟩ := x
    have hspot : spot = none := by
      have := World.cell?_spot (hc0.trans rfl)
      simpa [Addr.add] using this
    subst hspot
    simp only [Addr.add_lit] at hci
    have e0 := hci 0 (by omega)
    have e1 := hci 1 (by omega)
    have e2 := hci 2 (by omega)
    have e3 := hci 3 (by omega)
    exact ⟨b, off, rfl, e0, e1, e2, e3, World.block_lt_of_cell? W ⟨b, off + i * 4, none⟩ e0⟩
end Go.Proofs.YbulkantuFmt
