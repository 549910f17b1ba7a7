/-
  DERIVED. notTaken AND THE TWO LAWS: THE WALKS.
-/
import Derived.Test.YbulkantgFmtNames
namespace Go.Proofs.YbulkantgFmt
open Go.RowKit Go.Extern.Stop Go.Stop Go.Extern

theorem run_neq_iface_nil41 (w : World) (a : Addr) : (binOp .neq 24 (.iface 41 (.pointer (some a))) .nilIface).run Ybaf.prog w = .ok (.bool true) w := by kernel_rfl

set_option maxHeartbeats 800000 in
theorem notTaken_none (F : Interp) (k : Int) (w : World) (hF : F.answers w.tape) (hl : Laid w) (h0 : 0 ≤ k) (h1 : k ≤ 255) :
    Calls Ybaf.prog 5 #[.int .u8 k, .int .u32 0] w fun e w' => ∃ a, e = .returned (.iface 41 (.pointer (some a))) ∧ Below w.heap.size w w' := by
  have HL := hide hl
  have HF := hide hF
  clear hl hF
  go_enter Ybaf.func5, Ybaf.ntmps5
  go_wp2_with fail
  refine (errorf_A F k w.heap.size _ (by exact HF.out) (HL.out.below ((Below.refl _ w).alloc (Nat.le_refl _) _)) h0 h1 (by simp)).mono ?_
  rintro e w1 ⟨a, rfl, hb⟩
  go_wp2
  go_ret
  exact ⟨a, rfl, ((Below.refl _ w).alloc (Nat.le_refl _) _).trans (hb.mono (by simp))⟩

set_option maxHeartbeats 800000 in
theorem notTaken_some (F : Interp) (k s : Int) (w : World) (hF : F.answers w.tape) (hl : Laid w) (h0 : 0 ≤ k) (h1 : k ≤ 255) (hs : (s == 0) = false) (hne : kindsTo s 7 ≠ []) :
    Calls Ybaf.prog 5 #[.int .u8 k, .int .u32 s] w fun e w' => ∃ a, e = .returned (.iface 41 (.pointer (some a))) ∧ Below w.heap.size w w' := by
  have HL := hide hl
  have HF := hide hF
  have HN := hide (kindNames_any s w hl hne)
  clear hl hF hne
  go_enter Ybaf.func5, Ybaf.ntmps5
  go_wp2_with fail
  refine HN.out.mono ?_
  rintro e w1 ⟨t, rfl, hb1⟩
  have hF1 : F.answers w1.tape := by rw [hb1.tape]; exact HF.out
  go_wp2_with fail
  refine (errorf_B F k t w1.heap.size _ (by exact hF1) ((HL.out.below hb1).below ((Below.refl _ w1).alloc (Nat.le_refl _) _)) h0 h1 (by simp) (by simp)).mono ?_
  rintro e w2 ⟨a, rfl, hb⟩
  go_wp2
  go_ret
  exact ⟨a, rfl, (hb1.alloc hb1.size _).trans (hb.mono (by have := hb1.size; simp; omega))⟩

/-- A set with a bit among the first seven has a Kind. -/
theorem kinds_some (s : Int) (h : ∃ k, k ≤ 6 ∧ hasB s k = true) : kindsTo s 7 ≠ [] := by
  obtain ⟨k, hk, hb⟩ := h
  have step : ∀ j, k < j → kindsTo s j ≠ [] := by
    intro j
    induction j with
    | zero => intro h; omega
    | succ j ih =>
      intro hj
      by_cases e : k = j
      · subst e; rw [kindsTo_hit s k hk hb]; simp
      · have := ih (by omega)
        simp only [kindsTo]
        intro h
        exact this (List.append_eq_nil_iff.1 h).1
  exact step 7 (by omega)

set_option maxHeartbeats 800000 in
theorem refuses_out (k s : Int) (w : World) (hs : (s != 0) = true) (h7 : (bits BinOp.and IntKind.u32 s 127 == 0) = true) :
    Calls Ybaf.prog 3 #[.int .u8 k, .int .u32 s] w fun e w' => e = .returned (.bool true) ∧ w' = w := by
  go_enter Ybaf.func3, Ybaf.ntmps3
  go_wp2
  go_ret
  exact ⟨rfl, rfl⟩

set_option maxHeartbeats 800000 in
theorem refuses_none (F : Interp) (k : Int) (w : World) (hF : F.answers w.tape) (hl : Laid w) (h0 : 0 ≤ k) (h1 : k ≤ 255) :
    Calls Ybaf.prog 3 #[.int .u8 k, .int .u32 0] w fun e w' => e = .returned (.bool true) ∧ Below w.heap.size w w' := by
  have H := hide (notTaken_none F k w hF hl h0 h1)
  have hn := run_neq_iface_nil41
  clear hF hl
  go_enter Ybaf.func3, Ybaf.ntmps3
  go_wp2_with fail
  refine H.out.mono ?_
  rintro e w1 ⟨a, rfl, hb⟩
  go_wp2
  go_ret
  exact ⟨rfl, hb⟩

set_option maxHeartbeats 800000 in
theorem refuses_some (F : Interp) (k s : Int) (w : World) (hF : F.answers w.tape) (hl : Laid w) (h0 : 0 ≤ k) (h1 : k ≤ 255) (hs0 : (s == 0) = false) (hs : (s != 0) = true) (h7 : (bits BinOp.and IntKind.u32 s 127 == 0) = false) (hne : kindsTo s 7 ≠ []) :
    Calls Ybaf.prog 3 #[.int .u8 k, .int .u32 s] w fun e w' => e = .returned (.bool true) ∧ Below w.heap.size w w' := by
  have H := hide (notTaken_some F k s w hF hl h0 h1 hs0 hne)
  have hn := run_neq_iface_nil41
  clear hF hl hne
  go_enter Ybaf.func3, Ybaf.ntmps3
  go_wp2_with fail
  refine H.out.mono ?_
  rintro e w1 ⟨a, rfl, hb⟩
  go_wp2
  go_ret
  exact ⟨rfl, hb⟩
end Go.Proofs.YbulkantgFmt
