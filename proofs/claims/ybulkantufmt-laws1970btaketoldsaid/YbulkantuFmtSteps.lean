/-
  DERIVED. THE STEPS that come in; what stands where the law's loop begins.
-/
import Derived.Test.YbulkantuFmtModel
import Derived.BigQuiet
import Derived.Deep.QuietTactic
namespace Go.Proofs.YbulkantuFmt
open Go.RowKit Go.Extern.Stop Go.Stop Go.Extern

/-- The model's number of the device stood at. -/
def mdev : Option Nat → Int
  | none => -1
  | some j => j
/-- The steps that came in. -/
structure Steps (W : World) (a : Option Addr) (n : Nat) (D Q S G : Nat → Int) : Prop where
  cell : ∀ k, k < n → ∃ b off, a = some ⟨b, off, none⟩ ∧ W.cell? ⟨b, off + k * 4, none⟩ = some (.int .u8 (D k)) ∧ W.cell? ⟨b, off + k * 4 + 1, none⟩ = some (.int .u64 (Q k)) ∧ W.cell? ⟨b, off + k * 4 + 2, none⟩ = some (.int .u64 (S k)) ∧ W.cell? ⟨b, off + k * 4 + 3, none⟩ = some (.int .u8 (G k)) ∧ b < W.heap.size
  dev : ∀ k, k < n → 0 ≤ D k ∧ D k ≤ 255
  dig : ∀ k, k < n → 0 ≤ G k ∧ G k ≤ 255

theorem duo_new (W : World) (mi : Bool) (ch : Int) (B : Nat) (hB : W.heap.size = B) : Duo W (((((W.alloc (.map #[] 0)).alloc (.map #[] 0)).alloc (.cells (cRow B mi ch) 29)).alloc (.cells (crRow B none 0) 34)).alloc (.cells (mRow (fun _ => {}) (fun _ => false) ch (fun _ => .slice none 0 0)).toArray 38)) B mi ch (fun _ => {}) (fun _ => false) (fun _ => .slice none 0 0) none 0 (mRow (fun _ => {}) (fun _ => false) ch (fun _ => .slice none 0 0)) (fun _ => .slice none 0 0) (fun _ => []) := by
  subst hB
  have b0 : Below (W.heap.size + 1) (W.alloc (.map #[] 0)) (((((W.alloc (.map #[] 0)).alloc (.map #[] 0)).alloc (.cells (cRow W.heap.size mi ch) 29)).alloc (.cells (crRow W.heap.size none 0) 34)).alloc (.cells (mRow (fun _ => {}) (fun _ => false) ch (fun _ => .slice none 0 0)).toArray 38)) :=
    (((((Below.refl _ _).alloc (by simp) _).alloc (by simp) _).alloc (by simp) _).alloc (by simp) _)
  have b1 : Below (W.heap.size + 2) ((W.alloc (.map #[] 0)).alloc (.map #[] 0)) (((((W.alloc (.map #[] 0)).alloc (.map #[] 0)).alloc (.cells (cRow W.heap.size mi ch) 29)).alloc (.cells (crRow W.heap.size none 0) 34)).alloc (.cells (mRow (fun _ => {}) (fun _ => false) ch (fun _ => .slice none 0 0)).toArray 38)) :=
    ((((Below.refl _ _).alloc (by simp) _).alloc (by simp) _).alloc (by simp) _)
  refine ⟨⟨?_, ?_, ?_, ?_, fun _ _ => World.ownsRow_nil _ _ _ _, fun a b _ _ _ g h => by simp [Value.ownBlock] at h⟩, ?_, fun _ _ => World.ownsRow_nil _ _ _ _, fun a b _ _ _ g h => by simp [Value.ownBlock] at h, fun a b _ _ g h => by simp [Value.ownBlock] at h, ?_, rfl⟩
  · rw [Below.heap_alloc _ _ _ (by simp), Below.heap_alloc _ _ _ (by simp)]
    have := heap_alloc_new ((W.alloc (.map #[] 0)).alloc (.map #[] 0)) (.cells (cRow W.heap.size mi ch) 29)
    simpa using this
  · rw [Below.heap_alloc _ _ _ (by simp)]
    have := heap_alloc_new (((W.alloc (.map #[] 0)).alloc (.map #[] 0)).alloc (.cells (cRow W.heap.size mi ch) 29)) (.cells (crRow W.heap.size none 0) 34)
    simpa using this
  · exact (MapIs.made W zeroCov).kept (b0.block _ (by omega))
  · have h1 := MapIs.made (W.alloc (.map #[] 0)) (.int .i64 0)
    have h2 : (W.alloc (.map #[] 0)).heap.size = W.heap.size + 1 := by simp
    rw [h2] at h1
    exact h1.kept (b1.block _ (by omega))
  · have := heap_alloc_new ((((W.alloc (.map #[] 0)).alloc (.map #[] 0)).alloc (.cells (cRow W.heap.size mi ch) 29)).alloc (.cells (crRow W.heap.size none 0) 34)) (.cells (mRow (fun _ => {}) (fun _ => false) ch (fun _ => .slice none 0 0)).toArray 38)
    simpa using this
  · exact (((((Below.refl _ W).alloc (Nat.le_refl _) _).alloc (by simp) _).alloc (by simp; omega) _).alloc (by simp; omega) _).alloc (by simp; omega) _

theorem mRow_cover (d : Nat → Dev) (ls : Nat → Bool) (ch : Int) (mv : Nat → Value) (i : Nat) (hi : i < 3) (st q g : Int) :
    ((((mRow d ls ch mv).set (i * 7) (.bool true)).set (i * 7 + 1) (.int .u64 st)).set (i * 7 + 2) (.int .u64 q)).set (i * 7 + 3) (.int .u8 g) = mRow (upd d i { present := true, stamp := st, seq := q, dig := g, marks := (d i).marks }) ls ch mv := by
  rcases (show i = 0 ∨ i = 1 ∨ i = 2 by omega) with rfl | rfl | rfl <;> rfl
theorem mRow_mark (d : Nat → Dev) (ls : Nat → Bool) (ch : Int) (mv : Nat → Value) (i : Nat) (hi : i < 3) (v : Value) (m : List (Int × Int)) :
    ((mRow d ls ch mv).set (i * 7) (.bool true)).set (i * 7 + 4) v = mRow (upd d i { d i with present := true, marks := m }) ls ch (upd mv i v) := by
  rcases (show i = 0 ∨ i = 1 ∨ i = 2 by omega) with rfl | rfl | rfl <;> rfl
theorem mRow_seen (d : Nat → Dev) (ls : Nat → Bool) (ch : Int) (mv : Nat → Value) (i : Nat) (hi : i < 3) :
    (mRow d ls ch mv).set (i * 7) (.bool true) = mRow (upd d i { d i with present := true }) ls ch mv := by
  rcases (show i = 0 ∨ i = 1 ∨ i = 2 by omega) with rfl | rfl | rfl <;> rfl
theorem mRow_line (d : Nat → Dev) (ls : Nat → Bool) (ch : Int) (mv : Nat → Value) (i : Nat) (hi : i < 3) :
    ((mRow d ls ch mv).set (i * 7 + 5) (.bool true)).set (i * 7 + 6) (.int .i64 ch) = mRow d (upd ls i true) ch mv := by
  rcases (show i = 0 ∨ i = 1 ∨ i = 2 by omega) with rfl | rfl | rfl <;> rfl
end Go.Proofs.YbulkantuFmt
