/-
  DERIVED. THE PLAIN STATE of the reader, and how it lies in memory.
-/
import Derived.Test.YbulkantuFmtDigest
import Derived.Test.YbulkantuFmtMaps
namespace Go.Proofs.YbulkantuFmt
open Go.RowKit

/-- What is known of a device. -/
structure Dev where
  present : Bool := false
  stamp : Int := 0
  seq : Int := 0
  dig : Int := 0
  marks : List (Int × Int) := []

/-- The head's cells: the seq, then the digest's sixteen bytes. -/
def headCells (s x : Int) : List Value := .int .u64 s :: sixteen x
def hseq (d : Dev) : Int := if d.stamp = 0 then 0 else d.seq
def hdig (d : Dev) : Int := if d.stamp = 0 then 0 else d.dig
def cov (d : Dev) (v : Value) : Value := .agg (headCells (hseq d) (hdig d) ++ [Value.int .u64 d.stamp, v]).toArray
def zeroCov : Value := cov {} (.slice none 0 0)
def markCells (m : List (Int × Int)) : List Value := m.flatMap fun p => headCells p.1 p.2
def marksName : Bool → ByteArray
  | true => ⟨#[115, 116, 97, 116, 101]⟩
  | false => ⟨#[]⟩
def cRow (B : Nat) (mi : Bool) (ch : Int) : Array Value := (sixteen 0 ++ [Value.map (some B), .int .i64 ch, .string (marksName mi), .map (some (B + 1))]).toArray
def crRow (B : Nat) (dn : Option Nat) (mk : Int) : Array Value := #[.pointer (some ⟨B + 2, 0, none⟩), .map none, .int .i64 0, .string (devName dn), .int .u64 mk]

/-- The reader in memory. -/
structure Rd (W : World) (B : Nat) (mi : Bool) (ch : Int) (d : Nat → Dev) (ls : Nat → Bool) (cv : Nat → Value) (dn : Option Nat) (mk : Int) : Prop where
  c : W.heap[B + 2]? = some (.cells (cRow B mi ch) 29 (0, 0))
  cr : W.heap[B + 3]? = some (.cells (crRow B dn mk) 34 (0, 0))
  covers : MapIs W B zeroCov (fun i => (d i).present) (fun i => cov (d i) (cv i))
  lines : MapIs W (B + 1) (.int .i64 0) ls (fun i => .int .i64 (if ls i then ch else 0))
  own : ∀ i, i < 3 → W.ownsRow (B + 5) 62 17 (cv i) (d i).marks.length (markCells (d i).marks)
  apart : ∀ i j, i < 3 → j < 3 → i ≠ j → ∀ g, (cv i).ownBlock = some g → (cv j).ownBlock ≠ some g

theorem ownsRow_of_block {W W' : World} {base : Nat} {e : TypeId} {size : Nat} {v : Value} {n : Nat} {xs : List Value} (h : W.ownsRow base e size v n xs) (hb : ∀ g, v.ownBlock = some g → W'.heap[g]? = W.heap[g]?) : W'.ownsRow base e size v n xs := by
  obtain ⟨h1, h2⟩ := h
  refine ⟨h1, ?_⟩
  rcases h2 with h2 | ⟨g, cap, cur, rfl, a, c, r⟩
  · exact .inl h2
  · exact .inr ⟨g, cap, cur, rfl, a, (hb g rfl).trans c, r⟩

theorem ownBlock_lt {W : World} {base : Nat} {e : TypeId} {size : Nat} {v : Value} {n : Nat} {xs : List Value} (h : W.ownsRow base e size v n xs) {g : Nat} (hg : v.ownBlock = some g) : base ≤ g ∧ g < W.heap.size := by
  rcases h.2 with ⟨rfl, _⟩ | ⟨g', cap, cur, rfl, a, c, _⟩
  · simp [Value.ownBlock] at hg
  · simp [Value.ownBlock] at hg
    subst hg
    exact ⟨a, lt_of_block c⟩

theorem Rd.below {W W' : World} {B : Nat} {mi : Bool} {ch : Int} {d : Nat → Dev} {ls : Nat → Bool} {cv : Nat → Value} {dn : Option Nat} {mk : Int} (R : Rd W B mi ch d ls cv dn mk) (hb : Below W.heap.size W W') : Rd W' B mi ch d ls cv dn mk := by
  have h2 := lt_of_block R.c
  have h3 := lt_of_block R.cr
  refine ⟨(hb.block _ h2).trans R.c, (hb.block _ h3).trans R.cr, R.covers.kept (hb.block _ R.covers.lt), R.lines.kept (hb.block _ R.lines.lt), fun i hi => ?_, R.apart⟩
  exact ownsRow_of_block (R.own i hi) fun g hg => hb.block g (ownBlock_lt (R.own i hi) hg).2

/-- The line that is taken, in its box. -/
def lineCells (i : Nat) (seq stamp dig : Int) : Array Value :=
  #[.string (nm i), .int .u64 seq, .int .u64 stamp, .map none, .string ⟨#[]⟩, .string ⟨#[]⟩, .string ⟨#[]⟩, .map none, .string ⟨#[]⟩, .int .i64 0, .string ⟨#[]⟩, .string ⟨#[]⟩, .slice none 0 0, .string (hx dig), .bool false]

theorem line_cells {W W' : World} {nb i : Nat} {seq stamp dig : Int} (hl : W.heap[nb]? = some (.cells (lineCells i seq stamp dig) 55 (0, 0))) (hb : Below W.heap.size W W') :
    W'.cell? ⟨nb, 0, none⟩ = some (.string (nm i)) ∧ W'.cell? ⟨nb, 1, none⟩ = some (.int .u64 seq) ∧ W'.cell? ⟨nb, 2, none⟩ = some (.int .u64 stamp) ∧ W'.cell? ⟨nb, 13, none⟩ = some (.string (hx dig)) := by
  have h := (hb.block nb (lt_of_block hl)).trans hl
  refine ⟨?_, ?_, ?_, ?_⟩
  · rw [cell_of_row W' _ 0 _ 55 (0, 0) h]; rfl
  · rw [cell_of_row W' _ 1 _ 55 (0, 0) h]; rfl
  · rw [cell_of_row W' _ 2 _ 55 (0, 0) h]; rfl
  · rw [cell_of_row W' _ 13 _ 55 (0, 0) h]; rfl

theorem nm_ne {i j : Nat} (hi : i < 3) (hj : j < 3) (h : i ≠ j) : nm i ≠ nm j := by
  rcases (show i = 0 ∨ i = 1 ∨ i = 2 by omega) with rfl | rfl | rfl <;> rcases (show j = 0 ∨ j = 1 ∨ j = 2 by omega) with rfl | rfl | rfl <;> first | exact absurd rfl h | (intro e; simp [nm] at e)
theorem nm_apart {i j : Nat} (hi : i < 3) (hj : j < 3) (h : i ≠ j) : ((nm i).toList == (nm j).toList) = false := by
  rcases (show i = 0 ∨ i = 1 ∨ i = 2 by omega) with rfl | rfl | rfl <;> rcases (show j = 0 ∨ j = 1 ∨ j = 2 by omega) with rfl | rfl | rfl <;> first | exact absurd rfl h | kernel_rfl
/-- What a walk reads of the reader, in whatever later world. -/
theorem Rd.cells {W W' : World} {B : Nat} {mi : Bool} {ch : Int} {d : Nat → Dev} {ls : Nat → Bool} {cv : Nat → Value} {dn : Option Nat} {mk : Int} (R : Rd W B mi ch d ls cv dn mk) (hb : Below W.heap.size W W') :
    W'.cell? ⟨B + 3, 0, none⟩ = some (.pointer (some ⟨B + 2, 0, none⟩)) ∧ W'.cell? ⟨B + 3, 3, none⟩ = some (.string (devName dn)) ∧ W'.cell? ⟨B + 3, 4, none⟩ = some (.int .u64 mk) ∧
    W'.cell? ⟨B + 2, 16, none⟩ = some (.map (some B)) ∧ W'.cell? ⟨B + 2, 17, none⟩ = some (.int .i64 ch) ∧ W'.cell? ⟨B + 2, 18, none⟩ = some (.string (marksName mi)) ∧ W'.cell? ⟨B + 2, 19, none⟩ = some (.map (some (B + 1))) := by
  have R' := R.below hb
  have c := R'.c
  have r := R'.cr
  refine ⟨?_, ?_, ?_, ?_, ?_, ?_, ?_⟩
  · rw [cell_of_row W' _ 0 _ 34 (0, 0) r]; rfl
  · rw [cell_of_row W' _ 3 _ 34 (0, 0) r]; rfl
  · rw [cell_of_row W' _ 4 _ 34 (0, 0) r]; rfl
  · rw [cell_of_row W' _ 16 _ 29 (0, 0) c]; rfl
  · rw [cell_of_row W' _ 17 _ 29 (0, 0) c]; rfl
  · rw [cell_of_row W' _ 18 _ 29 (0, 0) c]; rfl
  · rw [cell_of_row W' _ 19 _ 29 (0, 0) c]; rfl
end Go.Proofs.YbulkantuFmt
