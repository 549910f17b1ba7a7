/-
  DERIVED. THE LAW's OWN MODEL in memory, beside the reader.
-/
import Derived.Test.YbulkantuFmtTaken
namespace Go.Proofs.YbulkantuFmt
open Go.RowKit

/-- One device of the model. -/
def devCells (e : Dev) (l : Bool) (ch : Int) (v : Value) : List Value := [.bool e.present, .int .u64 e.stamp, .int .u64 e.seq, .int .u8 e.dig, v, .bool l, .int .i64 (if l then ch else 0)]
def mRow (d : Nat → Dev) (ls : Nat → Bool) (ch : Int) (mv : Nat → Value) : List Value := devCells (d 0) (ls 0) ch (mv 0) ++ devCells (d 1) (ls 1) ch (mv 1) ++ devCells (d 2) (ls 2) ch (mv 2)
def pairCells (m : List (Int × Int)) : List Value := m.flatMap fun p => [.int .u64 p.1, .int .u8 p.2]

/-- The reader, and beside it the model: its cells cs, its rows of marks. -/
structure Duo (W w : World) (B : Nat) (mi : Bool) (ch : Int) (d : Nat → Dev) (ls : Nat → Bool) (cv : Nat → Value) (dn : Option Nat) (mk : Int) (cs : List Value) (mv : Nat → Value) (ms : Nat → List (Int × Int)) : Prop where
  rd : Rd w B mi ch d ls cv dn mk
  row : w.heap[B + 4]? = some (.cells cs.toArray 38 (0, 0))
  own : ∀ j, j < 3 → w.ownsRow (B + 5) 60 2 (mv j) (ms j).length (pairCells (ms j))
  apart : ∀ a b, a < 3 → b < 3 → a ≠ b → ∀ g, (mv a).ownBlock = some g → (mv b).ownBlock ≠ some g
  cross : ∀ a b, a < 3 → b < 3 → ∀ g, (mv a).ownBlock = some g → (cv b).ownBlock ≠ some g
  below : Below B W w
  top : W.heap.size = B

theorem mRow_get (d : Nat → Dev) (ls : Nat → Bool) (ch : Int) (mv : Nat → Value) (i j : Nat) (hi : i < 3) (hj : j < 7) : (mRow d ls ch mv)[i * 7 + j]? = (devCells (d i) (ls i) ch (mv i))[j]? := by
  rcases (show i = 0 ∨ i = 1 ∨ i = 2 by omega) with rfl | rfl | rfl <;> rcases (show j = 0 ∨ j = 1 ∨ j = 2 ∨ j = 3 ∨ j = 4 ∨ j = 5 ∨ j = 6 by omega) with rfl | rfl | rfl | rfl | rfl | rfl | rfl <;> rfl

section
variable {W w w' : World} {B : Nat} {mi : Bool} {ch : Int} {d : Nat → Dev} {ls : Nat → Bool} {cv : Nat → Value} {dn : Option Nat} {mk : Int} {cs : List Value} {mv : Nat → Value} {ms : Nat → List (Int × Int)}

theorem Duo.later (I : Duo W w B mi ch d ls cv dn mk cs mv ms) (hb : Below w.heap.size w w') : Duo W w' B mi ch d ls cv dn mk cs mv ms :=
  ⟨I.rd.below hb, (hb.block _ (lt_of_block I.row)).trans I.row, fun j hj => ownsRow_of_block (I.own j hj) fun g hg => hb.block g (ownBlock_lt (I.own j hj) hg).2, I.apart, I.cross,
    I.below.trans (hb.mono (by have := I.below.size; have := I.top; omega)), I.top⟩

/-- What the law reads of its model. -/
theorem Duo.mcells (I : Duo W w B mi ch d ls cv dn mk (mRow d ls ch mv) mv ms) {i : Nat} (hi : i < 3) :
    w.cell? ⟨B + 4, i * 7, none⟩ = some (.bool (d i).present) ∧ w.cell? ⟨B + 4, i * 7 + 1, none⟩ = some (.int .u64 (d i).stamp) ∧ w.cell? ⟨B + 4, i * 7 + 2, none⟩ = some (.int .u64 (d i).seq) ∧ w.cell? ⟨B + 4, i * 7 + 3, none⟩ = some (.int .u8 (d i).dig) ∧
    w.cell? ⟨B + 4, i * 7 + 4, none⟩ = some (mv i) ∧ w.cell? ⟨B + 4, i * 7 + 5, none⟩ = some (.bool (ls i)) ∧ w.cell? ⟨B + 4, i * 7 + 6, none⟩ = some (.int .i64 (if ls i then ch else 0)) := by
  have h : ∀ j, w.cell? ⟨B + 4, i * 7 + j, none⟩ = (mRow d ls ch mv)[i * 7 + j]? := fun j => by rw [cell_of_row w (B + 4) _ _ 38 (0, 0) I.row, List.getElem?_toArray]
  refine ⟨(h 0).trans ?_, (h 1).trans ?_, (h 2).trans ?_, (h 3).trans ?_, (h 4).trans ?_, (h 5).trans ?_, (h 6).trans ?_⟩
  all_goals
    rw [mRow_get d ls ch mv i _ hi (by omega)]
    rfl

/-- A cell of the model is written. -/
theorem Duo.set (I : Duo W w B mi ch d ls cv dn mk cs mv ms) (o : Nat) (u : Value) : Duo W (w.setCell ⟨B + 4, o, none⟩ u) B mi ch d ls cv dn mk (cs.set o u) mv ms := by
  obtain ⟨g, s⟩ := setCell_grown w (B + 4) o u
  have hk : ∀ q, q < w.heap.size → q ≠ B + 4 → (w.setCell ⟨B + 4, o, none⟩ u).heap[q]? = w.heap[q]? := fun q h1 h2 => g.block q h1 (by simpa using h2)
  have hlt := lt_of_block I.row
  refine ⟨⟨(hk _ (by omega) (by omega)).trans I.rd.c, (hk _ (by omega) (by omega)).trans I.rd.cr, I.rd.covers.kept (hk _ (by omega) (by omega)), I.rd.lines.kept (hk _ (by omega) (by omega)),
    fun j hj => ownsRow_of_block (I.rd.own j hj) fun g hg => hk g (ownBlock_lt (I.rd.own j hj) hg).2 (by have := (ownBlock_lt (I.rd.own j hj) hg).1; omega), I.rd.apart⟩, ?_,
    fun j hj => ownsRow_of_block (I.own j hj) fun g hg => hk g (ownBlock_lt (I.own j hj) hg).2 (by have := (ownBlock_lt (I.own j hj) hg).1; omega), I.apart, I.cross, I.below.setCell (p := ⟨B + 4, o, none⟩) (by show B ≤ B + 4; omega) u, I.top⟩
  rw [setCell_row I.row u]
  congr 2
  simp

/-- take has taken the line. -/
theorem Duo.taken (I : Duo W w B mi ch d ls cv dn mk cs mv ms) {ls' : Nat → Bool} {dn' : Option Nat} {mk' : Int} {i : Nat} {e : Dev} (hi : i < 3) (hA : Accept w w' B mi ch d ls' cv dn' mk' i e) : ∃ cv', Duo W w' B mi ch (upd d i e) ls' cv' dn' mk' cs mv ms := by
  obtain ⟨v', R, hs, K⟩ := hA
  have hlt := lt_of_block I.row
  have hoc := fun q (h : some q = (cv i).ownBlock) => ownBlock_lt (I.rd.own i hi) h.symm
  refine ⟨upd cv i v', R, ?_, fun j hj => ownsRow_of_block (I.own j hj) fun g hg => ?_, I.apart, fun a b ha hb g hg hc => ?_, ?_, I.top⟩
  · rw [K.block _ hlt (by omega) (by omega) (by omega) (fun h => by have := (hoc _ h).1; omega)]
    exact I.row
  · have hg' := ownBlock_lt (I.own j hj) hg
    exact K.block g hg'.2 (by omega) (by omega) (by omega) (fun h => I.cross j i hj hi g hg h.symm)
  · have hg' := ownBlock_lt (I.own a ha) hg
    by_cases e : b = i
    · subst e
      rw [upd_same] at hc
      rcases hs with h | ⟨g', h1, h2⟩
      · exact I.cross a b ha hb g hg (h ▸ hc)
      · rw [h2] at hc; cases hc; omega
    · rw [upd_other _ _ e] at hc
      exact I.cross a b ha hb g hg hc
  · have htop := I.top
    refine I.below.trans ⟨K.os, K.tape, K.output, K.size, fun q hq => K.block q (by have := I.below.size; omega) (by omega) (by omega) (by omega) (fun h => by have := (hoc _ h).1; omega)⟩

/-- The model's marks grow. -/
theorem Duo.grown (I : Duo W w B mi ch d ls cv dn mk cs mv ms) {i : Nat} (hi : i < 3) {v' : Value} {m' : List (Int × Int)} (hg : w.grownBy w' (mv i).ownBlock) (ho : w'.ownsRow (B + 5) 60 2 v' m'.length (pairCells m')) (ha : v'.ownBlock = (mv i).ownBlock ∨ v'.ownBlock = some w.heap.size) :
    Duo W w' B mi ch d ls cv dn mk cs (upd mv i v') (upd ms i m') := by
  have hlt := lt_of_block I.row
  have hov := fun q (h : some q = (mv i).ownBlock) => ownBlock_lt (I.own i hi) h.symm
  have hk : ∀ q, q < w.heap.size → q < B + 5 → w'.heap[q]? = w.heap[q]? := fun q h1 h2 => hg.block q h1 (fun h => by have := (hov _ h).1; omega)
  refine ⟨⟨(hk _ (by omega) (by omega)).trans I.rd.c, (hk _ (by omega) (by omega)).trans I.rd.cr, I.rd.covers.kept (hk _ (by omega) (by omega)), I.rd.lines.kept (hk _ (by omega) (by omega)),
    fun j hj => ownsRow_of_block (I.rd.own j hj) fun g hgj => hg.block g (ownBlock_lt (I.rd.own j hj) hgj).2 (fun h => I.cross i j hi hj g h.symm hgj), I.rd.apart⟩, (hk _ hlt (by omega)).trans I.row, fun j hj => ?_, fun a b ha' hb hab g hga hgb => ?_, fun a b ha' hb g hga hgb => ?_, ?_, I.top⟩
  · by_cases e : j = i
    · subst e
      rw [upd_same, upd_same]
      exact ho
    · rw [upd_other _ _ e, upd_other _ _ e]
      exact ownsRow_of_block (I.own j hj) fun g hgj => hg.block g (ownBlock_lt (I.own j hj) hgj).2 (fun h => I.apart i j hi hj (Ne.symm e) g h.symm hgj)
  · have hnew : ∀ c, c < 3 → c ≠ i → ∀ g, v'.ownBlock = some g → (mv c).ownBlock ≠ some g := fun c hc hne g h1 h2 => by
      rcases ha with h | h
      · exact I.apart i c hi hc (Ne.symm hne) g (h ▸ h1) h2
      · rw [h] at h1; cases h1
        have := (ownBlock_lt (I.own c hc) h2).2; omega
    by_cases ea : a = i
    · subst ea
      rw [upd_same] at hga
      rw [upd_other _ _ (Ne.symm hab)] at hgb
      exact hnew b hb (Ne.symm hab) g hga hgb
    · rw [upd_other _ _ ea] at hga
      by_cases eb : b = i
      · subst eb
        rw [upd_same] at hgb
        exact hnew a ha' ea g hgb hga
      · rw [upd_other _ _ eb] at hgb
        exact I.apart a b ha' hb hab g hga hgb
  · by_cases ea : a = i
    · subst ea
      rw [upd_same] at hga
      rcases ha with h | h
      · exact I.cross a b ha' hb g (h ▸ hga) hgb
      · rw [h] at hga; cases hga
        have := (ownBlock_lt (I.rd.own b hb) hgb).2; omega
    · rw [upd_other _ _ ea] at hga
      exact I.cross a b ha' hb g hga hgb
  · have htop := I.top
    exact I.below.trans ⟨hg.os, hg.tape, hg.output, hg.size, fun q hq => hk q (by have := I.below.size; omega) (by omega)⟩
end
end Go.Proofs.YbulkantuFmt
