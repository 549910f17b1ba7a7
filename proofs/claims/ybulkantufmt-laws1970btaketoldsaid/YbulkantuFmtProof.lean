/-
  DERIVED. 'Rows.LawS1970BTakeToldSaid' PROVED: the law lifted, the told and tied card closed by the builder's one call.
-/
import Derived.Test.YbulkantuFmtOpen
import Derived.Test.YbulkantuFmtLawF
import Derived.Test.YbulkantuFmtLawT
import Derived.Test.YbulkantuFmtCards
import Derived.Test.YbulkantuFmtTie
namespace Go.Proofs.YbulkantuFmt
open Go.ChangeShapes Go.WideShapes Go.ChangeAt Go.RowKit

theorem stopKnobs : Ybaf.pinned.checked.prog.stopKnobs = [] := by kernel_rfl
theorem quiet (os : Os) : Stop.quiet Ybaf.pinned.checked.prog os := by
  intro k hk
  rw [stopKnobs] at hk
  cases hk

/-- the variable's name, as the row names it -/
def errName : String := (Rows.lawS1970BTakeRow.named).headD default
theorem gErr : Ybaf.prog.globalNamed errName = some 0 := by kernel_rfl
theorem tErr : (Ybaf.prog.globals[0]?).map (·.type) = some 57 := by kernel_rfl

theorem iface_some {H : Type} {enc : TypeId × Value → H} {w : World} {base : Nat} {sp : Nat → Bool} {held : Bool} {fuel : Nat} {cs : List Value} {x : DataW H × List MemPlace} {t : TypeId} {ms : Array (String × TypeId)} (ht : Ybaf.prog.underlying t = some (.interface ms))
    (h : DataW.trod enc Ybaf.prog w base sp held fuel t cs = some x) : ∃ v, cs[0]? = some v := by
  cases cs with
  | cons v l => exact ⟨v, rfl⟩
  | nil =>
    cases fuel with
    | zero => simp [DataW.trod] at h
    | succ n => simp [DataW.trod, ht] at h

theorem of_laid {W : World} (h : laidMetH Ybaf.prog Rows.lawS1970BTakeRow.laid W) : ∃ ev, W.cell? ⟨0, 0, none⟩ = some ev := by
  rw [MakeChecks.laidMetH_plain _ _ _ (by kernel_rfl)] at h
  obtain ⟨ps, ⟨g0, t0, cs0, f0, p0, q0, hg0, ht0, hv0, hd0, _⟩, _⟩ := h
  obtain rfl := Option.some.inj (gErr.symm.trans hg0)
  obtain rfl := Option.some.inj (tErr.symm.trans ht0)
  obtain ⟨v, hv⟩ := iface_some Ybaf.underlying57 hd0
  exact ⟨v, (World.var?_cell hg0 hv0 0).trans (by rw [← Array.getElem?_toList]; exact hv)⟩

set_option maxRecDepth 100000 in
theorem door_met (os : Os) (args : Array Value) : laidMetH Ybaf.prog Rows.lawS1970BTakeRow.laid ((World.doorLaid Ybaf.prog 400 os).forCall (fun _ _ => 0) ⟨#[], args, []⟩).memory :=
  laidMetH_of_parts3 (fuel := 8) (laidMet_of_run' 8 (by kernel_rfl) (by kernel_rfl)) (by kernel_rfl) (by kernel_rfl)

set_option maxRecDepth 100000 in
theorem law_long (a : Option Addr) (n c : Nat) (mi : Bool) (ch : Int) (W : World) (hn : 1024 < n) (hm : n ≤ 9223372036854775807) :
    Calls Ybaf.prog 3 #[.slice a n c, .bool mi, .int .i64 ch] W fun e w' => e = .returned (.bool true) ∧ Below W.heap.size W w' := by
  have hd : decide ((1024 : Int) < (n : Int)) = true := decide_eq_true (by omega)
  go_enter Ybaf.func3, Ybaf.ntmps3
  go_wp2_with fail
  go_ret
  exact ⟨rfl, Below.refl _ _⟩

theorem law_all (F : Stop.Interp) (a : Option Addr) (n c : Nat) (mi : Bool) (ch : Int) (W : World) (ev : Value) (D Q S G : Nat → Int) (hst : Steps W a n D Q S G) (hm : n ≤ 9223372036854775807) (hF : F.answers W.tape) (hE : W.cell? ⟨0, 0, none⟩ = some ev) :
    Calls Ybaf.prog 3 #[.slice a n c, .bool mi, .int .i64 ch] W fun e w' => e = .returned (.bool true) ∧ Below W.heap.size W w' := by
  by_cases hn : 1024 < n
  · exact law_long a n c mi ch W hn hm
  · cases mi
    · exact law_false F a n c ch W W.heap.size rfl ev D Q S G hst (by omega) hF hE
    · exact law_true F a n c ch W W.heap.size rfl ev D Q S G hst (by omega) hF hE

set_option maxRecDepth 100000 in
theorem take_lifted (os : Os) (started : os.Started) (H : Type) (enc : TypeId × Value → H) :
    ReturnsInTold none {} Ybaf.checked os 3 .any Input.okWide ((OpenSpec.ofChange Rows.lawS1970BTakeSpec).preRow enc Ybaf.prog Ybaf.f3 [] false Rows.lawS1970BTakeRow.laid)
      (fun F => ((OpenSpec.ofChange Rows.lawS1970BTakeSpec).at F).post enc Ybaf.prog Ybaf.f3 false true false false) (aloneAtReturn Ybaf.prog) nothingAlways := by
  refine returnsInTold_of_row (C := Ybaf.checked) (s := OpenSpec.ofChange Rows.lawS1970BTakeSpec) (by kernel_rfl) own started (by kernel_rfl) Ybaf.func3
    (OpenSpec.witness_stopped_atRef (enc := enc) (C := Ybaf.checked) false (World.doorLaid Ybaf.prog 400 os) #[.slice none 0 0, .bool false, .int .i64 0] rfl (by kernel_rfl) (by kernel_rfl) (by kernel_rfl)
      (OpenSpec.preRow_of_B rfl 8 (by kernel_rfl) (by kernel_rfl) (door_met os _))) ?_
  intro F W base args ds gs before _ hF hval0 hW _ _ _ hL _
  have hval : ∀ (j : Nat) t v, Ybaf.f3.params[j]? = some t → args[j]? = some v → Value.okWide Ybaf.prog W .any base t v := hval0
  have hW' := hW
  obtain ⟨p, q, hA0, hV, rfl, hfz, hnd⟩ := hW
  have hA : DataW.TrodAll enc Ybaf.prog W 0 (fun _ => true) true Ybaf.f3.params.toList args.toList ds p := hA0
  rw [Ybaf.params3] at hA hval
  obtain ⟨v0, vs0, d0, ds0, p0, q0, hargs, rfl, rfl, h0, r0⟩ := trodAll_cons hA
  obtain ⟨v1, vs1, d1, ds1, p1, q1, rfl, rfl, rfl, h1, r1⟩ := trodAll_cons r0
  obtain ⟨v2, vs2, d2, ds2, p2, q2, rfl, rfl, rfl, h2, r2⟩ := trodAll_cons r1
  obtain ⟨rfl, rfl, rfl⟩ := trodAll_nil r2
  obtain rfl : args = #[v0, v1, v2] := by cases args; simp_all
  obtain ⟨rfl, rfl⟩ := trodVars_none hV
  obtain ⟨a0, len0, cap0, rfl⟩ := okWide_slice Ybaf.underlying22 (hval 0 22 v0 rfl rfl)
  have k0 := h0
  have lt0 : ∀ x ∈ p0, x.block < W.heap.size := by obtain ⟨m, hm⟩ := k0; exact DataW.trod_lt m _ _ _ hm
  obtain ⟨hm0, D, Q, S, G, hst⟩ : len0 ≤ 9223372036854775807 ∧ ∃ D Q S G, Steps W a0 len0 D Q S G := by
    obtain ⟨fuel, hf⟩ := h0
    exact steps_of hf
  obtain ⟨mi, rfl, rfl, rfl⟩ := open_bool Ybaf.underlying4 (hval 1 4 v1 rfl rfl) h1
  obtain ⟨ch, rfl, rfl, rfl, wc⟩ := open_int Ybaf.underlying2 (hval 2 2 v2 rfl rfl) h2
  clear hA0 hval0
  obtain ⟨ev, hE⟩ := of_laid hL
  refine (law_all F.told a0 len0 cap0 mi ch W ev D Q S G hst hm0 hF hE).mono fun e W' ⟨he, bel⟩ => ?_
  subst he
  exact ⟨_, rfl, _, _, _, [], _, [], hW', trodAll_mk1 (shut_bool Ybaf.underlying4 _), (trodAll_cons_mk (Below.trod laidOut (by kernel_rfl) (of_decide_eq_true (by kernel_rfl)) k0 bel lt0) (trodAll_cons_mk (shut_bool Ybaf.underlying4 mi) (trodAll_cons_mk (shut_int Ybaf.underlying2 wc) trodAll_mk0))), rfl, bel.frame _, fun h => by cases h⟩

/-- ████ THE STATEMENT ████ -/
theorem take_proved : Rows.LawS1970BTakeToldSaid :=
  Claim7.holds_of_told_tied_any_at .later 3 Ybaf.f3 (Rows.lawS1970BTakeRow.stops.headD default) [] [] _ _ _ _ _ (by kernel_rfl) rfl rfl rfl laidOut (by kernel_rfl) rfl ⟨rfl, rfl, rfl, rfl, rfl, rfl, rfl⟩ rfl rfl (by kernel_rfl) (by kernel_rfl) Ybaf.func3 (by kernel_rfl)
    (of_decide_eq_true (by kernel_rfl)) (of_decide_eq_true (by kernel_rfl)) (by kernel_rfl) rfl stopKnobs.symm (by kernel_rfl)
    (by kernel_rfl) (by kernel_rfl) (by kernel_rfl) (by kernel_rfl) (by kernel_rfl) (by kernel_rfl) (by kernel_rfl) (by kernel_rfl) (by kernel_rfl) rfl (by kernel_rfl) rfl rfl
    rfl rfl
    rfl (by kernel_rfl) (by kernel_rfl) (by kernel_rfl) (by decide) (by kernel_rfl) lawS1970BTake_row_tie
    (OpenClaim.moreEntering_of (by kernel_rfl) (by kernel_rfl) (by kernel_rfl) (by kernel_rfl) (by kernel_rfl) (by kernel_rfl) (by kernel_rfl) (by kernel_rfl) (by kernel_rfl) (by kernel_rfl))
    ⟨_, WideRow.started_initial, quiet _⟩
    (fun os started _ H enc _ => take_lifted os started H enc)
#print axioms take_proved
end Go.Proofs.YbulkantuFmt
