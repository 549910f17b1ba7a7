/-
  LawS1971CSeq: the row over the walk.
-/
import Derived.Test.YbulkanuiRows
import Derived.Test.YbulkanuiSeq
import Derived.OpenShut
import Derived.ShutString
import Derived.ChangeOld
import Derived.Deep.Slices
namespace Go.Proofs.Ybulkanui.Seq
open Go.ChangeShapes Go.WideShapes Go.ChangeAt Go.RowKit
open Go.ChangeMaps (open_string shut_string)

theorem own : ownKnob Yba.prog.godebug = none := by kernel_rfl
theorem laidOut : laidOutB Yba.prog = true := by kernel_rfl

/-- One line, opened. -/
theorem line_of {H : Type} {enc : TypeId × Value → H} {W : World} {base fuel : Nat} {v : Value} {x : DataW H × List MemPlace} (h : DataW.trod enc Yba.prog W base (fun _ => true) true fuel 22 [v] = some x) :
    ∃ A C Z, v = .slice A (List.length Z) C ∧ IsBytes W A Z.length C Z ∧ Z.length ≤ 9223372036854775807 := by
  rcases open_ints Yba.underlying22 Yba.underlying5 (by kernel_rfl) h with ⟨hcs, _⟩ | ⟨x, len, c, zs, hcs, _, hl, hm, hz, _, hc, _⟩
  · simp only [List.cons.injEq, and_true] at hcs
    exact ⟨none, 0, [], hcs, ⟨rfl, .inl ⟨rfl, rfl, rfl⟩⟩, by simp⟩
  · simp only [List.cons.injEq, and_true] at hcs
    simp only [if_true] at hz
    have hl' : (zs.take len).length = len := by rw [List.length_take]; omega
    refine ⟨some x, c, zs.take len, by rw [hl']; exact hcs, ⟨rfl, .inr ⟨x, rfl, fun i hi => ?_, fun hp => ?_, fun hp => ?_⟩⟩, by unfold maxLen at hm; omega⟩
    · rw [hc i (by omega), List.getD_eq_getElem?_getD, List.getD_eq_getElem?_getD, List.getElem?_take_of_lt (by omega)]
    · simpa [Addr.add] using World.cell?_spot (hc 0 (by omega))
    · have := World.block_lt_of_cell? W _ (hc 0 (by omega))
      rwa [add_block] at this

/-- The lines, opened. -/
theorem lines_of {H : Type} {enc : TypeId × Value → H} {W : World} {base fuel : Nat} {a : Option Addr} {len cap : Nat} {x : DataW H × List MemPlace} (h : DataW.trod enc Yba.prog W base (fun _ => true) true fuel 41 (Value.slice a len cap).cells.toList = some x) :
    len ≤ 9223372036854775807 ∧ ∃ A C Z, Lines W a len A C Z := by
  rcases Deep.open_slice1 Yba.underlying41 (by kernel_rfl) h with ⟨hcs, _⟩ | ⟨x, l, c, m, f, V, D, Pl, hcs, _, hl, hm, hmm, _, hx⟩
  · simp [Value.cells] at hcs
    obtain ⟨rfl, rfl, rfl⟩ := hcs
    exact ⟨by omega, fun _ => none, fun _ => 0, fun _ => [], ⟨fun i hi => by omega, fun i hi => by omega, fun i hi => by omega⟩⟩
  · simp [Value.cells] at hcs
    obtain ⟨rfl, rfl, rfl⟩ := hcs
    simp only [if_true] at hmm
    have each : ∀ i, i < len → ∃ t : Option Addr × Nat × List Int, V i = .slice t.1 t.2.2.length t.2.1 ∧ IsBytes W t.1 t.2.2.length t.2.1 t.2.2 ∧ t.2.2.length ≤ 9223372036854775807 := fun i hi => by
      obtain ⟨A, C, Z, h1, h2, h3⟩ := line_of (hx i (by omega)).2
      exact ⟨(A, C, Z), h1, h2, h3⟩
    obtain ⟨T, hT⟩ := Deep.choose_lt each
    unfold maxLen at hm
    refine ⟨by omega, fun i => (T i).1, fun i => (T i).2.1, fun i => (T i).2.2, ⟨fun i hi => ?_, fun i hi => (hT i hi).2.1, fun i hi => (hT i hi).2.2⟩⟩
    have hci := (hx i (by omega)).1
    have hc0 := (hx 0 (by omega)).1
    obtain ⟨b, off, spot⟩ := x
    have hspot : spot = none := by simpa [Addr.add] using World.cell?_spot hc0
    subst hspot
    rw [Addr.add_lit, (hT i hi).1] at hci
    exact ⟨b, off, rfl, hci, World.block_lt_of_cell? W ⟨b, off + i, none⟩ hci⟩

set_option maxRecDepth 100000 in
theorem lifted (os : Os) (started : os.Started) (H : Type) (enc : TypeId × Value → H) :
    ReturnsInHanded {} Yba.checked os 4 .any (Rows.lawS1971CSeqSpec.pre6 enc Yba.prog Yba.f4 Rows.lawS1971CSeqRow.domain false) (Rows.lawS1971CSeqSpec.post enc Yba.prog Yba.f4 false true false false) := by
  refine returnsInHanded_of_change (C := Yba.checked) own started (by kernel_rfl) Yba.func4
    (ChangeSpec.witness6 (enc := enc) (C := Yba.checked) false ⟨#[], #[.slice none 0 0, .int .i64 0, .int .u64 0], []⟩ 8 (by kernel_rfl) (by kernel_rfl) (by kernel_rfl) (by kernel_rfl)) ?_
  intro W base args ds gs before hval0 hW hcnd _
  have hval : ∀ (j : Nat) t v, Yba.f4.params[j]? = some t → args[j]? = some v → Value.okWide Yba.prog W .any base t v := hval0
  have hW' := hW
  obtain ⟨p, q, hA0, hV, rfl, hfz, hnd⟩ := hW
  have hA : DataW.TrodAll enc Yba.prog W 0 (fun _ => true) true Yba.f4.params.toList args.toList ds p := hA0
  rw [Yba.params4] at hA hval
  obtain ⟨v0, vs0, d0, ds0, p0, q0, hargs, rfl, rfl, h0, r0⟩ := trodAll_cons hA
  obtain ⟨v1, vs1, d1, ds1, p1, q1, rfl, rfl, rfl, h1, r1⟩ := trodAll_cons r0
  obtain ⟨v2, vs2, d2, ds2, p2, q2, rfl, rfl, rfl, h2, r2⟩ := trodAll_cons r1
  obtain ⟨rfl, rfl, rfl⟩ := trodAll_nil r2
  obtain rfl : args = #[v0, v1, v2] := by cases args; simp_all
  obtain ⟨rfl, rfl⟩ := trodVars_none hV
  obtain ⟨a0, len0, cap0, rfl⟩ := okWide_slice Yba.underlying41 (hval 0 41 v0 rfl rfl)
  have k0 := h0
  have lt0 : ∀ x ∈ p0, x.block < W.heap.size := by obtain ⟨m, hm⟩ := k0; exact DataW.trod_lt m _ _ _ hm
  obtain ⟨hm0, A, C, Z, hL⟩ : len0 ≤ 9223372036854775807 ∧ ∃ A C Z, Lines W a0 len0 A C Z := by
    obtain ⟨fuel, hf⟩ := h0
    exact lines_of hf
  obtain ⟨a1, rfl, rfl, rfl, w1⟩ := open_int Yba.underlying3 (hval 1 3 v1 rfl rfl) h1
  obtain ⟨a2, rfl, rfl, rfl, w2⟩ := open_int Yba.underlying23 (hval 2 23 v2 rfl rfl) h2
  clear hA0 hval0
  have walk : Calls Yba.prog 4 #[.slice a0 len0 cap0, .int .i64 a1, .int .u64 a2] W fun e w' => e = .returned (.bool true) ∧ Below W.heap.size W w' := by
    by_cases hn : 256 < len0
    · exact seq_long a0 len0 cap0 a1 a2 W hn hm0
    · refine seq_main a0 len0 cap0 A C Z a1 a2 W (by omega) hL ?_ ?_
      · simp only [Lit.wf, IntKind.min, IntKind.max, IntKind.signed, IntKind.bits, Bool.and_eq_true, decide_eq_true_eq, if_true] at w1
        unfold wrap64; omega
      · simp [Lit.wf, IntKind.min, IntKind.max, IntKind.signed, IntKind.bits] at w2
        simp [IntKind.wrap, IntKind.bits, IntKind.signed]; omega
  refine walk.mono fun e W' ⟨he, bel⟩ => ?_
  subst he
  exact ⟨_, rfl, _, _, _, [], _, [], hW', trodAll_mk1 (shut_bool Yba.underlying4 _), (trodAll_cons_mk (Below.trod laidOut (by kernel_rfl) (of_decide_eq_true (by kernel_rfl)) k0 bel lt0) (trodAll_cons_mk (shut_int Yba.underlying3 w1) (trodAll_cons_mk (shut_int Yba.underlying23 w2) trodAll_mk0))), rfl, bel.frame _, fun h => by cases h⟩

theorem over : Rows.lawS1971CSeqRow.holds Yba.pinned (OpenSpec.ofChange Rows.lawS1971CSeqSpec) :=
  OpenClaim.holds_of_wide 4 Yba.f4 rfl rfl rfl rfl rfl rfl rfl ⟨rfl, rfl, rfl, rfl, rfl⟩ rfl rfl rfl rfl rfl (by kernel_rfl) Yba.func4 (by kernel_rfl)
    (of_decide_eq_true (by kernel_rfl)) (by unfold Func.isWrapper; first | (rw [if_pos (by decide +kernel)]; kernel_rfl) | (rw [if_neg (by decide +kernel)]; exact ⟨rfl, rfl⟩))
    (fun os started H enc _ => lifted os started H enc)
end Go.Proofs.Ybulkanui.Seq
namespace Go.Proofs.Ybulkanui
/-- The statement. -/
theorem seq_proved : Rows.LawS1971CSeqSaid := Seq.over
end Go.Proofs.Ybulkanui
