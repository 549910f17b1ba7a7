/-
  DERIVED. 'Rows.LawS1969BKnownSetsToldSaid' PROVED.
-/
import Derived.Test.YbulkantgFmtLaid
import Derived.Test.YbulkantgFmtCards
import Derived.Test.YbulkantgFmtTie
namespace Go.Proofs.YbulkantgFmt.Known
open Go.ChangeShapes Go.WideShapes Go.ChangeAt Go.RowKit

/-- The test of round k, in the walk's own form. -/
def tb (c : Int) : Nat → Bool
  | 1 => bits BinOp.and IntKind.u8 c 1 != 0
  | 2 => bits BinOp.and IntKind.u8 c 2 != 0
  | 3 => bits BinOp.and IntKind.u8 c 4 != 0
  | 4 => bits BinOp.and IntKind.u8 c 8 != 0
  | 5 => bits BinOp.and IntKind.u8 c 16 != 0
  | _ => bits BinOp.and IntKind.u8 c 32 != 0
def mask : Nat → Int
  | 1 => 2
  | 2 => 4
  | 3 => 8
  | 4 => 16
  | 5 => 32
  | _ => 64
/-- 'taken' ahead of round k. -/
def tk (c : Int) : Nat → Int
  | 0 => 0
  | k + 1 => if k = 0 then 0 else if tb c k then bits BinOp.or IntKind.u32 (tk c k) (mask k) else tk c k

theorem tk_all : ∀ u : Fin 256, tk (u.val : Int) 7 = 0 ∨ (bits BinOp.and IntKind.u32 (tk (u.val : Int) 7) 127 == 0) = false := by decide +kernel
theorem as_fin {c : Int} (h0 : 0 ≤ c) (h1 : c ≤ 255) : ∃ u : Fin 256, c = (u.val : Int) := ⟨⟨c.toNat, by omega⟩, by simp; omega⟩

theorem taken_any (F : Stop.Interp) (k c : Int) (w : World) (hF : F.answers w.tape) (hl : Laid w) (h0 : 0 ≤ k) (h1 : k ≤ 255) (c0 : 0 ≤ c) (c1 : c ≤ 255) :
    Calls Ybaf.prog 5 #[.int .u8 k, .int .u32 (tk c 7)] w fun e w' => ∃ a, e = .returned (.iface 41 (.pointer (some a))) ∧ Below w.heap.size w w' := by
  obtain ⟨u, rfl⟩ := as_fin c0 c1
  rcases tk_all u with h | h
  · rw [h]; exact notTaken_none F k w hF hl h0 h1
  · have hne : tk (u.val : Int) 7 ≠ 0 := by intro e; rw [e] at h; cases h
    exact notTaken_some F k _ w hF hl h0 h1 (beq_eq_false_iff_ne.2 hne) (kinds_some _ (some_kind _ h))

theorem step_yes {c T : Int} {j : Nat} (hs : tk c (j + 1) = if tb c j then bits BinOp.or IntKind.u32 T (mask j) else T) (h : tb c j = true) : Value.int .u32 (bits BinOp.or IntKind.u32 T (mask j)) = .int .u32 (tk c (j + 1)) := by rw [hs, if_pos h]
theorem step_no {c T : Int} {j : Nat} (hs : tk c (j + 1) = if tb c j then bits BinOp.or IntKind.u32 T (mask j) else T) (h : tb c j = false) : Value.int .u32 T = .int .u32 (tk c (j + 1)) := by rw [hs, h]; rfl

set_option maxHeartbeats 1000000 in
theorem known_law (F : Stop.Interp) (k c : Int) (w : World) (hF : F.answers w.tape) (hl : Laid w) (h0 : 0 ≤ k) (h1 : k ≤ 255) (c0 : 0 ≤ c) (c1 : c ≤ 255) :
    Calls Ybaf.prog 4 #[.int .u8 k, .int .u8 c] w fun e w' => e = .returned (.bool true) ∧ Below w.heap.size w w' := by
  have H := hide (taken_any F k c w hF hl h0 h1 c0 c1)
  have hn := run_neq_iface_nil41
  clear hF hl
  go_enter Ybaf.func4, Ybaf.ntmps4
  go_wp2
  go_loop [5, 6] (fun t i => ∃ j : Nat, 1 ≤ j ∧ j ≤ 7 ∧ i = .int .u8 j ∧ t = .int .u32 (tk c j)) (fun _ i => 7 - (intOf i).toNat)
  case atStart => exact ⟨1, by omega, by omega, rfl, rfl⟩
  case round =>
    obtain ⟨j, hj1, hj7, rfl, rfl⟩ := hrel
    by_cases hlt : j ≤ 6
    · have hstep : Hid (tk c (j + 1) = if tb c j then bits BinOp.or IntKind.u32 (tk c j) (mask j) else tk c j) := by
        show tk c (j + 1) = _
        simp only [tk]
        rw [if_neg (by omega)]
      obtain ⟨T, hT⟩ : ∃ T, tk c j = T := ⟨_, rfl⟩
      rw [hT] at hstep ⊢
      clear hT
      rcases (show j = 1 ∨ j = 2 ∨ j = 3 ∨ j = 4 ∨ j = 5 ∨ j = 6 from by omega) with rfl | rfl | rfl | rfl | rfl | rfl
      · have hy : Hid ((bits BinOp.and IntKind.u8 c 1 != 0) = true → Value.int .u32 (bits BinOp.or IntKind.u32 T 2) = .int .u32 (tk c 2)) := fun h => step_yes (j := 1) hstep.out h
        have hno : Hid ((bits BinOp.and IntKind.u8 c 1 != 0) = false → Value.int .u32 T = .int .u32 (tk c 2)) := fun h => step_no (j := 1) hstep.out h
        clear hstep
        go_wp2
        · exact ⟨⟨2, by omega, by omega, rfl, hy.out (by assumption)⟩, by simp [intOf]⟩
        · exact ⟨⟨2, by omega, by omega, rfl, hno.out (by assumption)⟩, by simp [intOf]⟩
      · have hy : Hid ((bits BinOp.and IntKind.u8 c 2 != 0) = true → Value.int .u32 (bits BinOp.or IntKind.u32 T 4) = .int .u32 (tk c 3)) := fun h => step_yes (j := 2) hstep.out h
        have hno : Hid ((bits BinOp.and IntKind.u8 c 2 != 0) = false → Value.int .u32 T = .int .u32 (tk c 3)) := fun h => step_no (j := 2) hstep.out h
        clear hstep
        go_wp2
        · exact ⟨⟨3, by omega, by omega, rfl, hy.out (by assumption)⟩, by simp [intOf]⟩
        · exact ⟨⟨3, by omega, by omega, rfl, hno.out (by assumption)⟩, by simp [intOf]⟩
      · have hy : Hid ((bits BinOp.and IntKind.u8 c 4 != 0) = true → Value.int .u32 (bits BinOp.or IntKind.u32 T 8) = .int .u32 (tk c 4)) := fun h => step_yes (j := 3) hstep.out h
        have hno : Hid ((bits BinOp.and IntKind.u8 c 4 != 0) = false → Value.int .u32 T = .int .u32 (tk c 4)) := fun h => step_no (j := 3) hstep.out h
        clear hstep
        go_wp2
        · exact ⟨⟨4, by omega, by omega, rfl, hy.out (by assumption)⟩, by simp [intOf]⟩
        · exact ⟨⟨4, by omega, by omega, rfl, hno.out (by assumption)⟩, by simp [intOf]⟩
      · have hy : Hid ((bits BinOp.and IntKind.u8 c 8 != 0) = true → Value.int .u32 (bits BinOp.or IntKind.u32 T 16) = .int .u32 (tk c 5)) := fun h => step_yes (j := 4) hstep.out h
        have hno : Hid ((bits BinOp.and IntKind.u8 c 8 != 0) = false → Value.int .u32 T = .int .u32 (tk c 5)) := fun h => step_no (j := 4) hstep.out h
        clear hstep
        go_wp2
        · exact ⟨⟨5, by omega, by omega, rfl, hy.out (by assumption)⟩, by simp [intOf]⟩
        · exact ⟨⟨5, by omega, by omega, rfl, hno.out (by assumption)⟩, by simp [intOf]⟩
      · have hy : Hid ((bits BinOp.and IntKind.u8 c 16 != 0) = true → Value.int .u32 (bits BinOp.or IntKind.u32 T 32) = .int .u32 (tk c 6)) := fun h => step_yes (j := 5) hstep.out h
        have hno : Hid ((bits BinOp.and IntKind.u8 c 16 != 0) = false → Value.int .u32 T = .int .u32 (tk c 6)) := fun h => step_no (j := 5) hstep.out h
        clear hstep
        go_wp2
        · exact ⟨⟨6, by omega, by omega, rfl, hy.out (by assumption)⟩, by simp [intOf]⟩
        · exact ⟨⟨6, by omega, by omega, rfl, hno.out (by assumption)⟩, by simp [intOf]⟩
      · have hy : Hid ((bits BinOp.and IntKind.u8 c 32 != 0) = true → Value.int .u32 (bits BinOp.or IntKind.u32 T 64) = .int .u32 (tk c 7)) := fun h => step_yes (j := 6) hstep.out h
        have hno : Hid ((bits BinOp.and IntKind.u8 c 32 != 0) = false → Value.int .u32 T = .int .u32 (tk c 7)) := fun h => step_no (j := 6) hstep.out h
        clear hstep
        go_wp2
        · exact ⟨⟨7, by omega, by omega, rfl, hy.out (by assumption)⟩, by simp [intOf]⟩
        · exact ⟨⟨7, by omega, by omega, rfl, hno.out (by assumption)⟩, by simp [intOf]⟩
    · obtain rfl : j = 7 := by omega
      go_wp2_with fail
      refine H.out.mono ?_
      rintro e w1 ⟨a, rfl, hb⟩
      go_wp2
      go_ret
      exact ⟨rfl, hb⟩

theorem stopKnobs : Ybaf.pinned.checked.prog.stopKnobs = [] := by kernel_rfl
theorem quiet (os : Os) : Stop.quiet Ybaf.pinned.checked.prog os := by
  intro k hk
  rw [stopKnobs] at hk
  cases hk

set_option maxRecDepth 100000 in
theorem lifted (os : Os) (started : os.Started) (H : Type) (enc : TypeId × Value → H) :
    ReturnsInTold none {} Ybaf.checked os 4 .any Input.okWide ((OpenSpec.ofChange Rows.lawS1969BKnownSetsSpec).preRow enc Ybaf.prog Ybaf.f4 [] false Rows.lawS1969BKnownSetsRow.laid)
      (fun F => ((OpenSpec.ofChange Rows.lawS1969BKnownSetsSpec).at F).post enc Ybaf.prog Ybaf.f4 false true false false) (aloneAtReturn Ybaf.prog) nothingAlways := by
  refine returnsInTold_of_row (C := Ybaf.checked) (s := OpenSpec.ofChange Rows.lawS1969BKnownSetsSpec) (by kernel_rfl) own started (by kernel_rfl) Ybaf.func4
    (OpenSpec.witness_stopped_atRef (enc := enc) (C := Ybaf.checked) false (World.doorLaid Ybaf.prog 400 os) #[.int .u8 0, .int .u8 0] rfl (by kernel_rfl) (by kernel_rfl) (by kernel_rfl)
      (OpenSpec.preRow_of_B rfl 8 (by kernel_rfl) (by kernel_rfl) (door_met os _))) ?_
  intro F W base args ds gs before _ hF hval0 hW _ _ _ hL _
  have hval : ∀ (j : Nat) t v, Ybaf.f4.params[j]? = some t → args[j]? = some v → Value.okWide Ybaf.prog W .any base t v := hval0
  have hW' := hW
  obtain ⟨p, q, hA0, hV, rfl, hfz, hnd⟩ := hW
  have hA : DataW.TrodAll enc Ybaf.prog W 0 (fun _ => true) true Ybaf.f4.params.toList args.toList ds p := hA0
  rw [Ybaf.params4] at hA hval
  obtain ⟨v0, v1, d0, d1, p0, p1, rfl, rfl, rfl, h0, h1⟩ := trodAll_two hA
  have hVk := hV
  obtain ⟨g, t, cs, fuel, d, pv, rfl, _, _, _, _, _⟩ := trodVars_one hV
  obtain ⟨k, rfl, rfl, rfl, wk⟩ := open_int Ybaf.underlying5 (hval 0 5 v0 rfl rfl) h0
  obtain ⟨s, rfl, rfl, rfl, ws⟩ := open_int Ybaf.underlying5 (hval 1 5 v1 rfl rfl) h1
  clear hA0 hval0
  have hb8 := bounds_u8 wk
  have hs8 := bounds_u8 ws
  refine (known_law F.told k s W hF (of_laid hL) (by omega) (by omega) (by omega) (by omega)).mono fun e W' ⟨he, hbel⟩ => ?_
  subst he
  exact ⟨_, rfl, _, _, _, [], [], q, hW', trodAll_mk1 (shut_bool Ybaf.underlying4 _), trodAll_mk2 (p := []) (shut_int Ybaf.underlying5 wk) (shut_int Ybaf.underlying5 ws), Below.trodVars laidOut hbel (by kernel_rfl) hVk, hbel.frame _, fun h => by cases h⟩
end Go.Proofs.YbulkantgFmt.Known
namespace Go.Proofs.YbulkantgFmt
/-- ████ THE STATEMENT ████ -/
theorem known_proved : Rows.LawS1969BKnownSetsToldSaid :=
  Claim7.holds_of_told_tied_any_at .later 4 Ybaf.f4 (Rows.lawS1969BKnownSetsRow.stops.headD default) [] [] _ _ _ _ _ (by kernel_rfl) rfl rfl rfl laidOut (by kernel_rfl) rfl ⟨rfl, rfl, rfl, rfl, rfl, rfl, rfl⟩ rfl rfl (by kernel_rfl) (by kernel_rfl) Ybaf.func4 (by kernel_rfl)
    (of_decide_eq_true (by kernel_rfl)) (of_decide_eq_true (by kernel_rfl)) (by kernel_rfl) rfl Known.stopKnobs.symm (by kernel_rfl)
    (by kernel_rfl) (by kernel_rfl) (by kernel_rfl) (by kernel_rfl) (by kernel_rfl) (by kernel_rfl) (by kernel_rfl) (by kernel_rfl) (by kernel_rfl) rfl (by kernel_rfl) rfl rfl
    rfl rfl
    rfl (by kernel_rfl) (by kernel_rfl) (by kernel_rfl) (by decide) (by kernel_rfl) lawS1969BKnownSets_row_tie
    (OpenClaim.moreEntering_of (by kernel_rfl) (by kernel_rfl) (by kernel_rfl) (by kernel_rfl) (by kernel_rfl) (by kernel_rfl) (by kernel_rfl) (by kernel_rfl) (by kernel_rfl) (by kernel_rfl))
    ⟨_, WideRow.started_initial, Known.quiet _⟩
    (fun os started _ H enc _ => Known.lifted os started H enc)
#print axioms known_proved
end Go.Proofs.YbulkantgFmt
