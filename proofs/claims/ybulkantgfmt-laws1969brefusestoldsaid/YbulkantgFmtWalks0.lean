/-
  DERIVED. THE WALKS of the Kind's methods and of fmt.Errorf's front.
-/
import Derived.Test.YbulkantgFmtFacts
import Derived.Test.YbulkantgFmtShelf
import Derived.WalkKit
import Derived.WalkSpells
import Derived.WalkSmall
import Derived.Lib.AppendIntMem
import Derived.Lib.ItoaLen
namespace Go.Proofs.YbulkantgFmt
open Go.RowKit Go.Extern.Stop Go.Stop Go.Extern

theorem hide {p : Prop} (h : p) : Hid p := h
theorem unhide {p : Prop} (h : Hid p) : p := h
/-- The table 'kinds', cell by cell. -/
def kindCells : Array Value := #[.string ⟨#[]⟩, .bool false, .string ⟨#[114]⟩, .bool true, .string ⟨#[119]⟩, .bool true, .string ⟨#[99]⟩, .bool false, .string ⟨#[97]⟩, .bool false, .string ⟨#[105, 110, 99]⟩, .bool true, .string ⟨#[100, 101, 99]⟩, .bool true]
/-- The table lies in its variable's block, the powers' table in its own. -/
structure Laid (w : World) : Prop where
  kinds : ∀ i, w.cell? ⟨0, i, none⟩ = kindCells[i]?
  pow : Lib.TabIs Ybaf.prog w Ybaf.powName .u64 Lib.pow10Tab
def knownB (k : Int) : Bool := decide (1 ≤ k ∧ k ≤ 6)

set_option maxHeartbeats 400000 in
theorem known_any (k : Int) (h0 : 0 ≤ k) (h1 : k ≤ 255) (w : World) (hl : ∀ i, w.cell? ⟨0, i, none⟩ = kindCells[i]?) :
    Calls Ybaf.prog 13 #[.int .u8 k] w fun e w' => e = .returned (.bool (knownB k)) ∧ w' = w := by
  have c0 := hl 0
  have c2 := hl 2
  have c4 := hl 4
  have c6 := hl 6
  have c8 := hl 8
  have c10 := hl 10
  have c12 := hl 12
  simp only [kindCells, List.getElem?_toArray, List.getElem?_cons_zero, List.getElem?_cons_succ] at c0 c2 c4 c6 c8 c10 c12
  clear hl
  by_cases h7 : 7 ≤ k
  · have hk : knownB k = false := by simp [knownB]; omega
    rw [hk]
    go_enter Ybaf.func13, Ybaf.ntmps13
    go_wp2
    go_ret
    exact ⟨rfl, rfl⟩
  · rcases (show k = 0 ∨ k = 1 ∨ k = 2 ∨ k = 3 ∨ k = 4 ∨ k = 5 ∨ k = 6 from by omega) with rfl | rfl | rfl | rfl | rfl | rfl | rfl
    all_goals
      go_enter Ybaf.func13, Ybaf.ntmps13
      go_wp2
      go_ret
      exact ⟨rfl, rfl⟩

/-- The name of the Kind k, k at most 6. -/
def nameOf : Nat → ByteArray
  | 0 => ⟨#[75, 105, 110, 100, 40]⟩ ++ ⟨(Lib.decDigits 0).toArray⟩ ++ ⟨#[41]⟩
  | 1 => ⟨#[114]⟩
  | 2 => ⟨#[119]⟩
  | 3 => ⟨#[99]⟩
  | 4 => ⟨#[97]⟩
  | 5 => ⟨#[105, 110, 99]⟩
  | _ => ⟨#[100, 101, 99]⟩

theorem known_yes (k : Int) (h0 : 1 ≤ k) (h1 : k ≤ 6) (w : World) (hl : ∀ i, w.cell? ⟨0, i, none⟩ = kindCells[i]?) :
    Calls Ybaf.prog 13 #[.int .u8 k] w fun e w' => e = .returned (.bool true) ∧ w' = w := by
  have := known_any k (by omega) (by omega) w hl
  rwa [show knownB k = true by simp [knownB]; omega] at this
theorem known_no (k : Int) (h0 : 0 ≤ k) (h1 : k ≤ 255) (h : k = 0 ∨ 7 ≤ k) (w : World) (hl : ∀ i, w.cell? ⟨0, i, none⟩ = kindCells[i]?) :
    Calls Ybaf.prog 13 #[.int .u8 k] w fun e w' => e = .returned (.bool false) ∧ w' = w := by
  have := known_any k (by omega) (by omega) w hl
  rwa [show knownB k = false by simp [knownB]; omega] at this

set_option maxHeartbeats 400000 in
theorem string_zero (w : World) (hl : ∀ i, w.cell? ⟨0, i, none⟩ = kindCells[i]?) :
    Calls Ybaf.prog 10 #[.int .u8 0] w fun e w' => e = .returned (.string (nameOf 0)) ∧ w' = w := by
  have hk := hide (known_no 0 (by omega) (by omega) (by omega) w hl)
  have hi : Hid (∀ w, Calls Ybaf.prog 14 #[.int .i64 0] w fun e w' => e = .returned (.string ⟨(Lib.decDigits 0).toArray⟩) ∧ w' = w) := fun w => Ybaf.strconv_Itoa_small 0 (by decide) w
  generalize hdd : (⟨(Lib.decDigits 0).toArray⟩ : ByteArray) = dd at hi
  have hds : dd.size ≤ 21 := by rw [← hdd]; decide +kernel
  have HD := hide hdd
  clear hdd
  clear hl
  go_enter Ybaf.func10, Ybaf.ntmps10
  go_wp2_with (first | (go_at_call 13; refine (unhide hk).mono ?_; rintro e w' ⟨rfl, rfl⟩) | (go_at_call 14; refine (unhide hi _).mono ?_; rintro e w' ⟨rfl, rfl⟩))
  go_ret
  refine ⟨?_, rfl⟩
  rw [nameOf, HD.out]
  rfl

set_option maxHeartbeats 400000 in
theorem string_yes (k : Int) (h0 : 1 ≤ k) (h1 : k ≤ 6) (w : World) (hl : ∀ i, w.cell? ⟨0, i, none⟩ = kindCells[i]?) :
    Calls Ybaf.prog 10 #[.int .u8 k] w fun e w' => e = .returned (.string (nameOf k.toNat)) ∧ w' = w := by
  have hk := hide (known_yes k (by omega) (by omega) w hl)
  have c2 := hl 2
  have c4 := hl 4
  have c6 := hl 6
  have c8 := hl 8
  have c10 := hl 10
  have c12 := hl 12
  simp only [kindCells, List.getElem?_toArray, List.getElem?_cons_zero, List.getElem?_cons_succ] at c2 c4 c6 c8 c10 c12
  clear hl
  rcases (show k = 1 ∨ k = 2 ∨ k = 3 ∨ k = 4 ∨ k = 5 ∨ k = 6 from by omega) with rfl | rfl | rfl | rfl | rfl | rfl
  all_goals
    go_enter Ybaf.func10, Ybaf.ntmps10
    go_wp2_with (go_at_call 13; refine (unhide hk).mono ?_; rintro e w' ⟨rfl, rfl⟩)
    go_ret
    exact ⟨rfl, rfl⟩

theorem string_low (k : Nat) (h1 : k ≤ 6) (w : World) (hl : ∀ i, w.cell? ⟨0, i, none⟩ = kindCells[i]?) :
    Calls Ybaf.prog 10 #[.int .u8 k] w fun e w' => e = .returned (.string (nameOf k)) ∧ w' = w := by
  by_cases h : k = 0
  · subst h; exact string_zero w hl
  · exact string_yes k (by omega) (by omega) w hl

set_option maxHeartbeats 400000 in
theorem string_high (k : Int) (h0 : 7 ≤ k) (h1 : k ≤ 255) (w : World) (hl : Laid w) :
    Calls Ybaf.prog 10 #[.int .u8 k] w fun e w' => ∃ s, e = .returned (.string s) ∧ Below w.heap.size w w' := by
  have hk := hide (known_no k (by omega) (by omega) (by omega) w hl.kinds)
  have hi := hide (Ybaf.strconv_Itoa k (by omega) (by omega) w hl.pow)
  have hlen := Lib.itoa_length_le k (by omega) (by omega)
  clear hl
  go_enter Ybaf.func10, Ybaf.ntmps10
  go_wp2_with (first | (go_at_call 13; refine (unhide hk).mono ?_; rintro e w' ⟨rfl, rfl⟩) | (go_at_call 14; refine (unhide hi).mono ?_; rintro e w' ⟨rfl, kk, os, rfl⟩))
  go_ret
  exact ⟨_, rfl, Lib.below_grow _ _ (Nat.le_refl _) _ _⟩

theorem string_any (k : Int) (h0 : 0 ≤ k) (h1 : k ≤ 255) (w : World) (hl : Laid w) :
    Calls Ybaf.prog 10 #[.int .u8 k] w fun e w' => ∃ s, e = .returned (.string s) ∧ Below w.heap.size w w' := by
  by_cases h : k ≤ 6
  · obtain ⟨n, rfl⟩ := Int.eq_ofNat_of_zero_le h0
    exact (string_low n (by omega) w hl.kinds).mono fun e w' ⟨he, hw⟩ => ⟨_, he, by rw [hw]; exact Below.refl _ _⟩
  · exact string_high k (by omega) h1 w hl
end Go.Proofs.YbulkantgFmt
