/-
  DERIVED. WHAT THE LISTED VARIABLES GIVE THE WALKS; THE WITNESS's WORLD.
-/
import Derived.Test.YbulkantgFmtTaken
import Derived.Test.YbulkantgFmtBits
import Derived.ProofKit
import Derived.LaidMore
import Derived.OpenShut
import Derived.OpenVars
import Derived.MakeChecks
import Derived.Stop.Joined
import Derived.Stop.JoinedTold
import Derived.Deep.DeepWitnessRef
namespace Go.Proofs.YbulkantgFmt
open Go.ChangeShapes Go.WideShapes Go.ChangeAt Go.RowKit

theorem own : ownKnob Ybaf.prog.godebug = none := by kernel_rfl
theorem laidOut : laidOutB Ybaf.prog = true := by kernel_rfl
/-- the variable's name, as the row names it -/
def kindsName : String := (Rows.lawS1969BRefusesSpec.vars).headD default
theorem gKinds : Ybaf.prog.globalNamed kindsName = some 0 := by kernel_rfl
theorem tKinds : (Ybaf.prog.globals[0]?).map (·.type) = some 47 := by kernel_rfl
theorem gPow : Ybaf.prog.globalNamed Ybaf.powName = some 2 := by kernel_rfl
theorem tPow : (Ybaf.prog.globals[2]?).map (·.type) = some 69 := by kernel_rfl

set_option maxRecDepth 100000 in
theorem door_met (os : Os) (args : Array Value) : laidMetH Ybaf.prog Rows.lawS1969BRefusesRow.laid ((World.doorLaid Ybaf.prog 400 os).forCall (fun _ _ => 0) ⟨#[], args, []⟩).memory :=
  laidMetH_of_parts3 (fuel := 8) (laidMet_of_run' 8 (by kernel_rfl) (by kernel_rfl)) (by kernel_rfl) (by kernel_rfl)

theorem str_of_trod {H : Type} {enc : TypeId × Value → H} {w : World} {base : Nat} {sp : Nat → Bool} {held : Bool} {fuel : Nat} {c : Value} {y : DataW H × List MemPlace} {l : List UInt8}
    (h : DataW.trod enc Ybaf.prog w base sp held fuel 9 [c] = some y) (hy : y.1 = .lit (.string l)) : c = .string ⟨l.toArray⟩ := by
  obtain ⟨s, hc, hy', _⟩ := DataW.trod_string Ybaf.underlying9 h
  simp only [List.cons.injEq, and_true] at hc
  rw [hy'] at hy
  simp only [DataW.lit.injEq, Lit.string.injEq] at hy
  rw [hc, ← hy]
theorem bool_of_trod {H : Type} {enc : TypeId × Value → H} {w : World} {base : Nat} {sp : Nat → Bool} {held : Bool} {fuel : Nat} {c : Value} {y : DataW H × List MemPlace} {b : Bool}
    (h : DataW.trod enc Ybaf.prog w base sp held fuel 4 [c] = some y) (hy : y.1 = .lit (.bool b)) : c = .bool b := by
  obtain ⟨s, hc, hy'⟩ := DataW.trod_bool Ybaf.underlying4 h
  simp only [List.cons.injEq, and_true] at hc
  rw [hy'] at hy
  simp only [DataW.lit.injEq, Lit.bool.injEq] at hy
  rw [hc, ← hy]
theorem pair_of_trod {H : Type} {enc : TypeId × Value → H} {w : World} {base : Nat} {sp : Nat → Bool} {held : Bool} {fuel : Nat} {c d : Value} {y : DataW H × List MemPlace} {l : List UInt8} {b : Bool}
    (h : DataW.trod enc Ybaf.prog w base sp held fuel 46 [c, d] = some y) (hy : y.1 = .agg [.lit (.string l), .lit (.bool b)]) : c = .string ⟨l.toArray⟩ ∧ d = .bool b := by
  obtain ⟨y0, y1, n, rfl, _, h0, h1⟩ := trod_struct2 Ybaf.underlying46 h
  simp only [DataW.agg.injEq, List.cons.injEq, and_true] at hy
  have c9 : Ybaf.prog.cellsOf 9 = 1 := by kernel_rfl
  have c4 : Ybaf.prog.cellsOf 4 = 1 := by kernel_rfl
  simp only [c9, c4] at h0 h1
  exact ⟨str_of_trod (by simpa using h0) hy.1, bool_of_trod (by simpa using h1) hy.2⟩

theorem kinds_cells {W : World} {sp : Nat → Bool} {held : Bool} {fuel : Nat} {cs : Array Value} {p : List MemPlace} {enc : TypeId × Value → Unit}
    (h : DataW.trod enc Ybaf.prog W 0 sp held fuel 47 cs.toList = some (Rows.laid_example_com_serialgraph_serialgraph_kinds, p)) : cs = kindCells := by
  obtain ⟨xs, m, rfl, hx, hlen, hn, hel⟩ := DataW.trod_array Ybaf.underlying47 h
  have c46 : Ybaf.prog.cellsOf 46 = 2 := by kernel_rfl
  have c47 : Ybaf.prog.cellsOf 47 = 14 := by kernel_rfl
  obtain ⟨l⟩ := cs
  simp only [c47] at hlen
  match l, hlen with
  | [a0, a1, a2, a3, a4, a5, a6, a7, a8, a9, a10, a11, a12, a13], _ =>
    match xs, hn with
    | [x0, x1, x2, x3, x4, x5, x6], _ =>
      simp only [Rows.laid_example_com_serialgraph_serialgraph_kinds, Prod.mk.injEq, DataW.agg.injEq, List.map_cons, List.map_nil, List.cons.injEq, and_true] at hx
      obtain ⟨⟨e0, e1, e2, e3, e4, e5, e6⟩, _⟩ := hx
      have t0 := hel 0 (by omega)
      have t1 := hel 1 (by omega)
      have t2 := hel 2 (by omega)
      have t3 := hel 3 (by omega)
      have t4 := hel 4 (by omega)
      have t5 := hel 5 (by omega)
      have t6 := hel 6 (by omega)
      simp [c46] at t0 t1 t2 t3 t4 t5 t6
      obtain ⟨rfl, rfl⟩ := pair_of_trod t0 e0.symm
      obtain ⟨rfl, rfl⟩ := pair_of_trod t1 e1.symm
      obtain ⟨rfl, rfl⟩ := pair_of_trod t2 e2.symm
      obtain ⟨rfl, rfl⟩ := pair_of_trod t3 e3.symm
      obtain ⟨rfl, rfl⟩ := pair_of_trod t4 e4.symm
      obtain ⟨rfl, rfl⟩ := pair_of_trod t5 e5.symm
      obtain ⟨rfl, rfl⟩ := pair_of_trod t6 e6.symm
      rfl

theorem of_laid {W : World} (h : laidMetH Ybaf.prog Rows.lawS1969BRefusesRow.laid W) : Laid W := by
  rw [MakeChecks.laidMetH_plain _ _ _ (by kernel_rfl)] at h
  obtain ⟨ps, ⟨g0, t0, cs0, f0, p0, q0, hg0, ht0, hv0, hd0, ⟨g1, t1, cs1, f1, p1, q1, hg1, ht1, hv1, hd1, ⟨g2, t2, cs2, f2, p2, q2, hg2, ht2, hv2, hd2, ⟨g3, t3, cs3, f3, p3, q3, hg3, ht3, hv3, hd3, _, _⟩, _⟩, _⟩, _⟩, _, _⟩ := h
  obtain rfl := Option.some.inj (gPow.symm.trans hg2)
  obtain rfl := Option.some.inj (gKinds.symm.trans hg3)
  obtain rfl := Option.some.inj (tPow.symm.trans ht2)
  obtain rfl := Option.some.inj (tKinds.symm.trans ht3)
  refine ⟨fun i => ?_, ?_⟩
  · have := World.var?_cell hg3 hv3 i
    rw [kinds_cells hd3] at this
    exact this
  · show W.var? Ybaf.prog Ybaf.powName = _
    rw [show W.var? Ybaf.prog Ybaf.powName = some cs2 from hv2]
    have := Lib.cells_of_tab (zs := Lib.pow10Tab) (k := .u64) Ybaf.underlying69 Ybaf.underlying62 (by kernel_rfl) (by kernel_rfl) hd2
    rw [← this]
end Go.Proofs.YbulkantgFmt
