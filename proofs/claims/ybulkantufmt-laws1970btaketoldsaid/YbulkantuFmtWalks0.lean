/-
  DERIVED. THE WALKS of fmt.Errorf, the names, the reader's end, the digests.
-/
import Derived.Test.YbulkantuFmtFacts
import Derived.WalkKit
import Derived.WalkSpells
import Derived.WalkSmall
namespace Go.Proofs.YbulkantuFmt
open Go.RowKit Go.Extern.Stop Go.Stop Go.Extern
attribute [local go_sem] Ybaf.call14 Ybaf.guard Ybaf.op9_115w Ybaf.op9_115 Ybaf.str9 Ybaf.ptr83 Ybaf.elem83 Ybaf.isError83 Ybaf.fmtA Ybaf.fmtAr Ybaf.fmtB Ybaf.fmtBr Ybaf.fmtC Ybaf.fmtCr

theorem hide {p : Prop} (h : p) : Hid p := h

/-- The device's name. -/
def nm : Nat → ByteArray
  | 0 => ⟨#[97]⟩
  | 1 => ⟨#[98]⟩
  | _ => ⟨#[99]⟩

theorem name_any (i : Nat) (hi : i < 3) (w : World) : Calls Ybaf.prog 4 #[.int .i64 (i : Int)] w fun e w' => e = .returned (.string (nm i)) ∧ w' = w := by
  rcases (show i = 0 ∨ i = 1 ∨ i = 2 by omega) with rfl | rfl | rfl
  all_goals
    go_enter Ybaf.func4, Ybaf.ntmps4
    go_wp2
    go_ret
    exact ⟨rfl, rfl⟩

theorem errorf_A (F : Interp) (t : ByteArray) (b : Nat) (w : World) (hF : F.answers w.tape) (hc : w.cell? ⟨b, 0, none⟩ = some (.iface 9 (.string t))) :
    Calls Ybaf.prog 10 #[.string Ybaf.formA, .slice (some ⟨b, 0, none⟩) 1 1] w fun e w' => ∃ a, e = .returned (.iface 83 (.pointer (some a))) ∧ Below w.heap.size w w' := by
  have hF' := answers_open hF
  go_enter Ybaf.func10, Ybaf.ntmps10
  go_wp2
  go_ret
  exact ⟨_, rfl, ((Below.refl _ w).alloc (Nat.le_refl _) _).drew⟩

theorem errorf_B (F : Interp) (t : ByteArray) (b : Nat) (w : World) (hF : F.answers w.tape) (hc : w.cell? ⟨b, 0, none⟩ = some (.iface 9 (.string t))) :
    Calls Ybaf.prog 10 #[.string Ybaf.formB, .slice (some ⟨b, 0, none⟩) 1 1] w fun e w' => ∃ a, e = .returned (.iface 83 (.pointer (some a))) ∧ Below w.heap.size w w' := by
  have hF' := answers_open hF
  go_enter Ybaf.func10, Ybaf.ntmps10
  go_wp2
  go_ret
  exact ⟨_, rfl, ((Below.refl _ w).alloc (Nat.le_refl _) _).drew⟩

theorem errorf_C (F : Interp) (t : ByteArray) (b : Nat) (w : World) (hF : F.answers w.tape) (hc : w.cell? ⟨b, 0, none⟩ = some (.iface 9 (.string t))) :
    Calls Ybaf.prog 10 #[.string Ybaf.formC, .slice (some ⟨b, 0, none⟩) 1 1] w fun e w' => ∃ a, e = .returned (.iface 83 (.pointer (some a))) ∧ Below w.heap.size w w' := by
  have hF' := answers_open hF
  go_enter Ybaf.func10, Ybaf.ntmps10
  go_wp2
  go_ret
  exact ⟨_, rfl, ((Below.refl _ w).alloc (Nat.le_refl _) _).drew⟩

/-- The device that the reader stands at: none, or the one with that number. -/
def devName : Option Nat → ByteArray
  | none => ⟨#[]⟩
  | some i => nm i

theorem end_none (b : Nat) (w : World) (hc : w.cell? ⟨b, 3, none⟩ = some (.string ⟨#[]⟩)) :
    Calls Ybaf.prog 9 #[.pointer (some ⟨b, 0, none⟩)] w fun e w' => e = .returned .nilIface ∧ w' = w := by
  go_enter Ybaf.func9, Ybaf.ntmps9
  go_wp2
  go_ret
  exact ⟨rfl, rfl⟩

theorem nm_full (i : Nat) : (nm i).toList.isEmpty = false := by
  rcases (show i = 0 ∨ i = 1 ∨ 2 ≤ i by omega) with rfl | rfl | h
  · kernel_rfl
  · kernel_rfl
  · obtain ⟨j, rfl⟩ : ∃ j, i = j + 2 := ⟨i - 2, by omega⟩
    kernel_rfl

theorem end_some (F : Interp) (b i : Nat) (w : World) (hF : F.answers w.tape) (hc : w.cell? ⟨b, 3, none⟩ = some (.string (nm i))) :
    Calls Ybaf.prog 9 #[.pointer (some ⟨b, 0, none⟩)] w fun e w' => ∃ a, e = .returned (.iface 83 (.pointer (some a))) ∧ Below w.heap.size w w' := by
  have hne := nm_full i
  go_enter Ybaf.func9, Ybaf.ntmps9
  go_wp2_with fail
  refine (errorf_A F (nm i) w.heap.size _ (by exact hF) (by rw [cell_of_row _ w.heap.size 0 _ 20 (0, 0) (heap_alloc_new w _)]; rfl)).mono ?_
  rintro e w1 ⟨a, rfl, hb⟩
  have HB := hide hb
  clear hb
  go_wp2_with fail
  go_ret
  exact ⟨a, rfl, ((Below.refl _ w).alloc (Nat.le_refl _) _).trans (HB.out.mono (by simp))⟩

/-- The first k bytes are x. -/
def fill (x : Int) (k : Nat) : Array Value := (List.replicate k (Value.int .u8 x) ++ List.replicate (16 - k) (Value.int .u8 0)).toArray
theorem setRow_alloc_new (w : World) (old cs : Array Value) (t : TypeId) (fr : Nat × Nat) : (w.alloc (.cells old t fr)).setRow w.heap.size cs = w.alloc (.cells cs t fr) := by
  unfold World.setRow World.alloc
  congr 1
  apply Array.ext
  · simp
  · intro i h1 h2
    rw [Array.getElem_modify]
    simp only [Array.getElem_push]
    simp only [Array.size_push] at h2
    by_cases h : w.heap.size = i
    · subst h; simp
    · have : i < w.heap.size := by omega
      simp [h, this]
theorem setCell_new (w : World) (old : Array Value) (t : TypeId) (j : Nat) (u : Value) : (w.alloc (.cells old t)).setCell ⟨w.heap.size, j, none⟩ u = w.alloc (.cells (old.setIfInBounds j u) t) := by
  rw [setCell_eq_setRow _ w.heap.size j old t (0, 0) u (heap_alloc_new w _), setRow_alloc_new]
theorem free_of_row {w : World} {b j : Nat} {cs : Array Value} {t : TypeId} (h : w.heap[b]? = some (.cells cs t (0, 0))) : w.frozen? ⟨b, j, none⟩ = false := by simp [World.frozen?, h]
theorem fill_set (x : Int) (k : Nat) (hk : k < 16) : (fill x k).setIfInBounds k (.int .u8 x) = fill x (k + 1) := by
  have : k = 0 ∨ k = 1 ∨ k = 2 ∨ k = 3 ∨ k = 4 ∨ k = 5 ∨ k = 6 ∨ k = 7 ∨ k = 8 ∨ k = 9 ∨ k = 10 ∨ k = 11 ∨ k = 12 ∨ k = 13 ∨ k = 14 ∨ k = 15 := by omega
  rcases this with rfl | rfl | rfl | rfl | rfl | rfl | rfl | rfl | rfl | rfl | rfl | rfl | rfl | rfl | rfl | rfl <;> rfl
theorem fill_get (x : Int) (k : Nat) (hk : k < 16) : (fill x k)[k]? = some (.int .u8 0) := by
  unfold fill
  rw [List.getElem?_toArray, List.getElem?_append_right (by simp), List.length_replicate, Nat.sub_self, List.getElem?_replicate_of_lt (by omega)]

theorem chain_any (x : Int) (w : World) :
    Calls Ybaf.prog 7 #[.int .u8 x] w fun e w' => e = .returned (.agg (Array.replicate 16 (.int .u8 x))) ∧ Below w.heap.size w w' := by
  go_enter Ybaf.func7, Ybaf.ntmps7
  go_wp2_with fail
  have hB : Below w.heap.size w (w.alloc (.cells (fill 0 0) 27)) := (Below.refl _ w).alloc (Nat.le_refl _) _
  obtain ⟨w1, hw1⟩ : ∃ w1, w.alloc (.cells (fill 0 0) 27) = w1 := ⟨_, rfl⟩
  have hs1 : w1.heap.size = w.heap.size + 1 := by rw [← hw1]; simp
  rw [hw1] at hB
  go_loopw [4] (fun i wr => ∃ k : Nat, k ≤ 16 ∧ i = .int .i64 k ∧ wr = w1.alloc (.cells (fill x k) 27)) (fun i _ => 16 - (intOf i).toNat)
  case atStart => exact ⟨0, by omega, rfl, by rw [← hw1]; rfl⟩
  case round =>
    obtain ⟨k, hk, rfl, rfl⟩ := hrel
    by_cases hlt : k < 16
    · have c := cell_of_row (w1.alloc (.cells (fill x k) 27)) w1.heap.size k _ 27 (0, 0) (heap_alloc_new w1 _)
      rw [fill_get x k hlt, hs1] at c
      have f : (w1.alloc (.cells (fill x k) 27)).frozen? ⟨w.heap.size + 1, k, none⟩ = false := by rw [← hs1]; exact free_of_row (heap_alloc_new w1 _)
      have st := setCell_new w1 (fill x k) 27 k (.int .u8 x)
      rw [fill_set x k hlt, hs1] at st
      have q1 : (k : Int) < 16 := by omega
      have q2 : (0 : Int) ≤ k := by omega
      go_wp2_with fail
      go_roundw
      case rel => exact ⟨k + 1, by omega, by go_num, rfl⟩
      case measure => simp [intOf]; omega
    · obtain rfl : k = 16 := by omega
      subst hw1
      rw [show fill x 16 = #[.int .u8 x, .int .u8 x, .int .u8 x, .int .u8 x, .int .u8 x, .int .u8 x, .int .u8 x, .int .u8 x, .int .u8 x, .int .u8 x, .int .u8 x, .int .u8 x, .int .u8 x, .int .u8 x, .int .u8 x, .int .u8 x] from rfl, show fill 0 0 = #[.int .u8 0, .int .u8 0, .int .u8 0, .int .u8 0, .int .u8 0, .int .u8 0, .int .u8 0, .int .u8 0, .int .u8 0, .int .u8 0, .int .u8 0, .int .u8 0, .int .u8 0, .int .u8 0, .int .u8 0, .int .u8 0] from rfl]
      go_wp2_with fail
      try simp only [Exit.inBlock, Exit.then]
      refine bodyPost_ret (results_cell_row rfl _ _ w.heap.size 27 _ (0, 0) _ (by rfl) (heap_alloc2_old w _ _) Ybaf.underlying27 rfl (by kernel_rfl)) rfl ?_
      exact ⟨rfl, ((Below.refl _ w).alloc (Nat.le_refl _) _).alloc (by simp) _⟩
end Go.Proofs.YbulkantuFmt
