/-
  DERIVED. PLAIN: a number with a bit among its first seven.
-/
import Derived.Test.YbulkantgFmtIter
namespace Go.Proofs.YbulkantgFmt
open Go.RowKit

theorem u32_wrap_toNat (b : BitVec 32) : IntKind.u32.wrap (b.toNat : Int) = b.toNat := by
  have := b.isLt
  simp [IntKind.wrap, IntKind.bits, IntKind.signed]
  omega
theorem and_zero (s c : Int) : (bits BinOp.and IntKind.u32 s c != 0) = false ↔ (BitVec.ofInt 32 s &&& BitVec.ofInt 32 c) = 0#32 := by
  show ((IntKind.u32.wrap ((BitVec.ofInt 32 s &&& BitVec.ofInt 32 c).toNat : Int)) != 0) = false ↔ _
  rw [u32_wrap_toNat]
  rw [bne_eq_false_iff_eq]
  constructor
  · intro h
    apply BitVec.eq_of_toNat_eq
    simpa using h
  · intro h; rw [h]; rfl

theorem seven (a : BitVec 32) (h0 : a &&& 1#32 = 0#32) (h1 : a &&& 2#32 = 0#32) (h2 : a &&& 4#32 = 0#32) (h3 : a &&& 8#32 = 0#32) (h4 : a &&& 16#32 = 0#32) (h5 : a &&& 32#32 = 0#32) (h6 : a &&& 64#32 = 0#32) : a &&& 127#32 = 0#32 := by
  have e : (127#32) = 1#32 ||| 2#32 ||| 4#32 ||| 8#32 ||| 16#32 ||| 32#32 ||| 64#32 := by decide
  rw [e]
  simp only [BitVec.and_or_distrib_left, h0, h1, h2, h3, h4, h5, h6]
  decide

theorem some_kind (s : Int) (h7 : (bits BinOp.and IntKind.u32 s 127 == 0) = false) : ∃ k, k ≤ 6 ∧ hasB s k = true := by
  refine Classical.byContradiction fun hn => ?_
  have hall : ∀ k, k ≤ 6 → hasB s k = false := fun k hk => by
    cases h : hasB s k with
    | false => rfl
    | true => exact absurd ⟨k, hk, h⟩ hn
  have := seven (BitVec.ofInt 32 s) ((and_zero s 1).1 (hall 0 (by omega))) ((and_zero s 2).1 (hall 1 (by omega))) ((and_zero s 4).1 (hall 2 (by omega))) ((and_zero s 8).1 (hall 3 (by omega)))
    ((and_zero s 16).1 (hall 4 (by omega))) ((and_zero s 32).1 (hall 5 (by omega))) ((and_zero s 64).1 (hall 6 (by omega)))
  have h127 := (and_zero s 127).2 this
  simp only [bne_eq_false_iff_eq] at h127
  rw [h127] at h7
  cases h7
end Go.Proofs.YbulkantgFmt
