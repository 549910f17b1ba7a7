/-
  DERIVED. 'Rows.LawS1969BRefusesToldSaid' PROVED: the law lifted, the told and tied card closed by the builder's one call.
-/
import Derived.Test.YbulkantgFmtLaid
import Derived.Test.YbulkantgFmtCards
import Derived.Test.YbulkantgFmtTie
namespace Go.Proofs.YbulkantgFmt
open Go.ChangeShapes Go.WideShapes Go.ChangeAt Go.RowKit

theorem stopKnobs : Ybaf.pinned.checked.prog.stopKnobs = [] := by kernel_rfl
theorem quiet (os : Os) : Stop.quiet Ybaf.pinned.checked.prog os := by
  intro k hk
  rw [stopKnobs] at hk
  cases hk

theorem refuses_all (F : Stop.Interp) (k s : Int) (w : World) (hF : F.answers w.tape) (hl : Laid w) (h0 : 0 ≤ k) (h1 : k ≤ 255) :
    Calls Ybaf.prog 3 #[.int .u8 k, .int .u32 s] w fun e w' => e = .returned (.bool true) ∧ Below w.heap.size w w' := by
  by_cases hs : s = 0
  · subst hs; exact refuses_none F k w hF hl h0 h1
  · have hs0 : (s == 0) = false := beq_eq_false_iff_ne.2 hs
    have hs1 : (s != 0) = true := by rw [bne_iff_ne]; exact hs
    cases h7 : (bits BinOp.and IntKind.u32 s 127 == 0) with
    | true => exact (refuses_out k s w hs1 h7).mono fun e w' ⟨he, hw⟩ => ⟨he, by rw [hw]; exact Below.refl _ _⟩
    | false => exact refuses_some F k s w hF hl h0 h1 hs0 hs1 h7 (kinds_some s (some_kind s h7))

set_option maxRecDepth 100000 in
theorem refuses_lifted (os : Os) (started : os.Started) (H : Type) (enc : TypeId × Value → H) :
    ReturnsInTold none {} Ybaf.checked os 3 .any Input.okWide ((OpenSpec.ofChange Rows.lawS1969BRefusesSpec).preRow enc Ybaf.prog Ybaf.f3 [] false Rows.lawS1969BRefusesRow.laid)
      (fun F => ((OpenSpec.ofChange Rows.lawS1969BRefusesSpec).at F).post enc Ybaf.prog Ybaf.f3 false true false false) (aloneAtReturn Ybaf.prog) nothingAlways := by
  refine returnsInTold_of_row (C := Ybaf.checked) (s := OpenSpec.ofChange Rows.lawS1969BRefusesSpec) (by kernel_rfl) own started (by kernel_rfl) Ybaf.func3
    (OpenSpec.witness_stopped_atRef (enc := enc) (C := Ybaf.checked) false (World.doorLaid Ybaf.prog 400 os) #[.int .u8 0, .int .u32 0] rfl (by kernel_rfl) (by kernel_rfl) (by kernel_rfl)
      (OpenSpec.preRow_of_B rfl 8 (by kernel_rfl) (by kernel_rfl) (door_met os _))) ?_
  intro F W base args ds gs before _ hF hval0 hW _ _ _ hL _
  have hval : ∀ (j : Nat) t v, Ybaf.f3.params[j]? = some t → args[j]? = some v → Value.okWide Ybaf.prog W .any base t v := hval0
  have hW' := hW
  obtain ⟨p, q, hA0, hV, rfl, hfz, hnd⟩ := hW
  have hA : DataW.TrodAll enc Ybaf.prog W 0 (fun _ => true) true Ybaf.f3.params.toList args.toList ds p := hA0
  rw [Ybaf.params3] at hA hval
  obtain ⟨v0, v1, d0, d1, p0, p1, rfl, rfl, rfl, h0, h1⟩ := trodAll_two hA
  have hVk := hV
  obtain ⟨g, t, cs, fuel, d, pv, rfl, _, _, _, _, _⟩ := trodVars_one hV
  obtain ⟨k, rfl, rfl, rfl, wk⟩ := open_int Ybaf.underlying5 (hval 0 5 v0 rfl rfl) h0
  obtain ⟨s, rfl, rfl, rfl, ws⟩ := open_int Ybaf.underlying22 (hval 1 22 v1 rfl rfl) h1
  clear hA0 hval0
  have hb8 := bounds_u8 wk
  refine (refuses_all F.told k s W hF (of_laid hL) (by omega) (by omega)).mono fun e W' ⟨he, hbel⟩ => ?_
  subst he
  exact ⟨_, rfl, _, _, _, [], [], q, hW', trodAll_mk1 (shut_bool Ybaf.underlying4 _), trodAll_mk2 (p := []) (shut_int Ybaf.underlying5 wk) (shut_int Ybaf.underlying22 ws), Below.trodVars laidOut hbel (by kernel_rfl) hVk, hbel.frame _, fun h => by cases h⟩

/-- ████ THE STATEMENT ████ -/
theorem refuses_proved : Rows.LawS1969BRefusesToldSaid :=
  Claim7.holds_of_told_tied_any_at .later 3 Ybaf.f3 (Rows.lawS1969BRefusesRow.stops.headD default) [] [] _ _ _ _ _ (by kernel_rfl) rfl rfl rfl laidOut (by kernel_rfl) rfl ⟨rfl, rfl, rfl, rfl, rfl, rfl, rfl⟩ rfl rfl (by kernel_rfl) (by kernel_rfl) Ybaf.func3 (by kernel_rfl)
    (of_decide_eq_true (by kernel_rfl)) (of_decide_eq_true (by kernel_rfl)) (by kernel_rfl) rfl stopKnobs.symm (by kernel_rfl)
    (by kernel_rfl) (by kernel_rfl) (by kernel_rfl) (by kernel_rfl) (by kernel_rfl) (by kernel_rfl) (by kernel_rfl) (by kernel_rfl) (by kernel_rfl) rfl (by kernel_rfl) rfl rfl
    rfl rfl
    rfl (by kernel_rfl) (by kernel_rfl) (by kernel_rfl) (by decide) (by kernel_rfl) lawS1969BRefuses_row_tie
    (OpenClaim.moreEntering_of (by kernel_rfl) (by kernel_rfl) (by kernel_rfl) (by kernel_rfl) (by kernel_rfl) (by kernel_rfl) (by kernel_rfl) (by kernel_rfl) (by kernel_rfl) (by kernel_rfl))
    ⟨_, WideRow.started_initial, quiet _⟩
    (fun os started _ H enc _ => refuses_lifted os started H enc)
#print axioms refuses_proved
end Go.Proofs.YbulkantgFmt
