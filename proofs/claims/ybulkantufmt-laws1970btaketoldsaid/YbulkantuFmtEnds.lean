/-
  DERIVED. THE ENDS of the law's round: the model follows the reader.
-/
import Derived.Test.YbulkantuFmtSteps
import Derived.Deep.AppendLies
import Derived.Deep.RegionLaw
import Derived.Deep.DrawnRows
namespace Go.Proofs.YbulkantuFmt
open Go.RowKit Go.Extern.Stop Go.Stop Go.Extern

theorem Ybaf.info60 : (Ybaf.prog.info? 60).map (fun i => (i.zero, i.size, i.bytes)) = some (some (.agg #[.int .u64 0, .int .u8 0]), 2, 16) := by kernel_rfl

theorem pairCells_snoc (m : List (Int × Int)) (q g : Int) : pairCells (m ++ [(q, g)]) = pairCells m ++ [.int .u64 q, .int .u8 g] := by
  unfold pairCells
  rw [List.flatMap_append]
  rfl
theorem marks_same (d : Nat → Dev) (i : Nat) (e : Dev) (h : e.marks = (d i).marks) : (fun j => (upd d i e j).marks) = fun j => (d j).marks := by
  funext j
  by_cases hj : j = i
  · subst hj; rw [upd_same, h]
  · rw [upd_other _ _ hj]
theorem marks_upd (d : Nat → Dev) (i : Nat) (e : Dev) : (fun j => (upd d i e j).marks) = upd (fun j => (d j).marks) i e.marks := by
  funext j
  by_cases hj : j = i
  · subst hj; rw [upd_same, upd_same]
  · rw [upd_other _ _ hj, upd_other _ _ hj]
theorem few_upd {d : Nat → Dev} {i k : Nat} {e : Dev} (h : ∀ j, j < 3 → (d j).marks.length ≤ k) (he : e.marks.length ≤ k + 1) : ∀ j, j < 3 → (upd d i e j).marks.length ≤ k + 1 := by
  intro j hj
  by_cases hji : j = i
  · subst hji; rw [upd_same]; exact he
  · rw [upd_other _ _ hji]; exact Nat.le_succ_of_le (h j hj)

section
variable {W w w' : World} {B : Nat} {mi : Bool} {ch : Int} {d d' : Nat → Dev} {ls ls' : Nat → Bool} {cv : Nat → Value} {dn : Option Nat} {mk : Int} {cs : List Value} {mv : Nat → Value} {ms : Nat → List (Int × Int)} {i : Nat}

theorem Duo.line (I : Duo W w B mi ch d' ls' cv dn mk (mRow d ls ch mv) mv ms) (hi : i < 3) : Duo W ((w.setCell ⟨B + 4, i * 7 + 5, none⟩ (.bool true)).setCell ⟨B + 4, i * 7 + 6, none⟩ (.int .i64 ch)) B mi ch d' ls' cv dn mk (mRow d (upd ls i true) ch mv) mv ms := by
  have h := (I.set (i * 7 + 5) (.bool true)).set (i * 7 + 6) (.int .i64 ch)
  rwa [mRow_line d ls ch mv i hi] at h
theorem Duo.again {ms' : Nat → List (Int × Int)} (I : Duo W w B mi ch d' ls' cv dn mk cs mv ms) (h : ms' = ms) : Duo W w B mi ch d' ls' cv dn mk cs mv ms' := by
  rw [h]; exact I
theorem Duo.cover {st q g : Int} {e : Dev} (he : e = ⟨true, st, q, g, (d i).marks⟩) (I : Duo W w B mi ch (upd d i e) ls' cv dn mk (mRow d ls ch mv) mv (fun j => (d j).marks)) (hi : i < 3) :
    Duo W ((((w.setCell ⟨B + 4, i * 7, none⟩ (.bool true)).setCell ⟨B + 4, i * 7 + 1, none⟩ (.int .u64 st)).setCell ⟨B + 4, i * 7 + 2, none⟩ (.int .u64 q)).setCell ⟨B + 4, i * 7 + 3, none⟩ (.int .u8 g)) B mi ch (upd d i e) ls' cv dn mk
      (mRow (upd d i e) ls ch mv) mv (fun j => (upd d i e j).marks) := by
  have h := (((I.set (i * 7) (.bool true)).set (i * 7 + 1) (.int .u64 st)).set (i * 7 + 2) (.int .u64 q)).set (i * 7 + 3) (.int .u8 g)
  rw [mRow_cover d ls ch mv i hi] at h
  subst he
  exact h.again (marks_same d i _ rfl)
theorem Duo.seen {e : Dev} (he : e = ⟨true, (d i).stamp, (d i).seq, (d i).dig, (d i).marks⟩) (I : Duo W w B mi ch (upd d i e) ls' cv dn mk (mRow d ls ch mv) mv (fun j => (d j).marks)) (hi : i < 3) :
    Duo W (w.setCell ⟨B + 4, i * 7, none⟩ (.bool true)) B mi ch (upd d i e) ls' cv dn mk (mRow (upd d i e) ls ch mv) mv (fun j => (upd d i e j).marks) := by
  have h := I.set (i * 7) (.bool true)
  rw [mRow_seen d ls ch mv i hi] at h
  subst he
  exact h.again (marks_same d i _ rfl)
/-- A mark is appended: the model's row has grown, its slice is stored. -/
theorem Duo.mark {q g : Int} {e : Dev} (he : e = ⟨true, (d i).stamp, (d i).seq, (d i).dig, (d i).marks ++ [(q, g)]⟩) (I : Duo W w B mi ch (upd d i e) ls' cv dn mk ((mRow d ls ch mv).set (i * 7) (.bool true)) mv (fun j => (d j).marks)) (hi : i < 3) {v' : Value}
    (hg : w.grownBy w' (mv i).ownBlock) (ho : w'.ownsRow (B + 5) 60 2 v' ((d i).marks.length + 1) (pairCells (d i).marks ++ [.int .u64 q, .int .u8 g])) (ha : v'.ownBlock = (mv i).ownBlock ∨ v'.ownBlock = some w.heap.size) :
    Duo W (w'.setCell ⟨B + 4, i * 7 + 4, none⟩ v') B mi ch (upd d i e) ls' cv dn mk (mRow (upd d i e) ls ch (upd mv i v')) (upd mv i v') (fun j => (upd d i e j).marks) := by
  have h := (I.grown hi (m' := (d i).marks ++ [(q, g)]) hg (by rw [pairCells_snoc, List.length_append]; exact ho) ha).set (i * 7 + 4) v'
  rw [mRow_mark d ls ch mv i hi v' ((d i).marks ++ [(q, g)])] at h
  subst he
  exact h.again (marks_upd d i _)
end
theorem set_far (w : World) (b o : Nat) (u : Value) {q : Nat} (h1 : q < w.heap.size) (h2 : q ≠ b) : (w.setCell ⟨b, o, none⟩ u).heap[q]? = w.heap[q]? :=
  (setCell_grown w b o u).1.block q h1 (by simpa using h2)
/-- A region whose every order comes to one end, up to two numbers. -/
theorem region_grows {P : Program} {id : Nat} {ops : Array Oper} {b : Bool} {Q : Exit → Act → World → Prop} {a : Act} {w : World} (R : Nat → Nat → World → Prop) (A : Nat → Nat → Act) (h1 : (Code.region id ops b).wp P (NoPanic fun e a' w' => e = .normal ∧ ∃ g cap, a' = A g cap ∧ R g cap w') a w) (h2 : ∀ g cap w', R g cap w' → Q .normal (A g cap) w') : (Code.region id ops b).wp P Q a w :=
  Code.wp_mono (fun e a' w' h => by obtain ⟨rfl, g, cap, rfl, hr⟩ := NoPanic.imp _ _ _ h; exact h2 g cap w' hr) h1
end Go.Proofs.YbulkantuFmt
