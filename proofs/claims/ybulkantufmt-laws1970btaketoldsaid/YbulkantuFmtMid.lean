/-
  DERIVED. WHAT STANDS IN THE MIDDLE OF take, and how each of its steps turns it.
-/
import Derived.Test.YbulkantuFmtLib
namespace Go.Proofs.YbulkantuFmt
open Go.RowKit

/-- What was there is as it was, but for the two maps, the reader's box and the row of v0. -/
structure Kept (W w : World) (B : Nat) (v0 : Value) : Prop where
  os : w.os = W.os
  tape : w.tape = W.tape
  output : w.output = W.output
  size : W.heap.size ≤ w.heap.size
  block : ∀ q, q < W.heap.size → q ≠ B → q ≠ B + 1 → q ≠ B + 3 → some q ≠ v0.ownBlock → w.heap[q]? = W.heap[q]?

structure Now (W w : World) (nb B : Nat) (mi : Bool) (ch : Int) (d : Nat → Dev) (ls : Nat → Bool) (cv : Nat → Value) (dn : Option Nat) (mk : Int) (i : Nat) (seq stamp dig : Int) (hd : List Value) (st : Int) (v : Value) (ms : List (Int × Int)) : Prop where
  c : w.heap[B + 2]? = some (.cells (cRow B mi ch) 29 (0, 0))
  cr : w.heap[B + 3]? = some (.cells (crRow B dn mk) 34 (0, 0))
  covers : MapIs w B zeroCov (fun j => (d j).present) (fun j => cov (d j) (cv j))
  lines : MapIs w (B + 1) (.int .i64 0) ls (fun j => .int .i64 (if ls j then ch else 0))
  own : ∀ j, j < 3 → j ≠ i → w.ownsRow (B + 5) 62 17 (cv j) (d j).marks.length (markCells (d j).marks)
  cur : w.ownsRow (B + 5) 62 17 v ms.length (markCells ms)
  sep : v.ownBlock = (cv i).ownBlock ∨ ∃ g, nb + 2 ≤ g ∧ v.ownBlock = some g
  line : w.heap[nb]? = some (.cells (lineCells i seq stamp dig) 55 (0, 0))
  box : w.heap[nb + 1]? = some (.cells (hd ++ [.int .u64 st, v]).toArray 65 (0, 0))
  kept : Kept W w B (cv i)
  top : W.heap.size = nb
  lo : B + 5 ≤ nb
  old : ∀ j, j < 3 → ∀ g, (cv j).ownBlock = some g → B + 5 ≤ g ∧ g < nb
  apart : ∀ a b, a < 3 → b < 3 → a ≠ b → ∀ g, (cv a).ownBlock = some g → (cv b).ownBlock ≠ some g
  at3 : i < 3

section
variable {W w w' : World} {nb B : Nat} {mi : Bool} {ch : Int} {d : Nat → Dev} {ls : Nat → Bool} {cv : Nat → Value} {dn : Option Nat} {mk : Int} {i : Nat} {seq stamp dig : Int} {hd : List Value} {st : Int} {v : Value} {ms : List (Int × Int)}

theorem Kept.below {v0 : Value} (h : Kept W w B v0) (hb : Below w.heap.size w w') : Kept W w' B v0 :=
  ⟨hb.os.trans h.os, hb.tape.trans h.tape, hb.output.trans h.output, Nat.le_trans h.size hb.size, fun q a b c e f => (hb.block q (Nat.lt_of_lt_of_le a h.size)).trans (h.block q a b c e f)⟩

theorem Now.above (N : Now W w nb B mi ch d ls cv dn mk i seq stamp dig hd st v ms) : nb + 2 ≤ w.heap.size := lt_of_block N.box

/-- The reader's boxes and the line's, in whatever later world. -/
theorem Now.later (N : Now W w nb B mi ch d ls cv dn mk i seq stamp dig hd st v ms) (hb : Below w.heap.size w w') : Now W w' nb B mi ch d ls cv dn mk i seq stamp dig hd st v ms :=
  ⟨(hb.block _ (lt_of_block N.c)).trans N.c, (hb.block _ (lt_of_block N.cr)).trans N.cr, N.covers.kept (hb.block _ N.covers.lt), N.lines.kept (hb.block _ N.lines.lt),
    fun j hj hne => ownsRow_of_block (N.own j hj hne) fun g hg => hb.block g (ownBlock_lt (N.own j hj hne) hg).2,
    ownsRow_of_block N.cur fun g hg => hb.block g (ownBlock_lt N.cur hg).2, N.sep, (hb.block _ (lt_of_block N.line)).trans N.line, (hb.block _ (lt_of_block N.box)).trans N.box,
    N.kept.below hb, N.top, N.lo, N.old, N.apart, N.at3⟩

/-- The row at hand is none of the boxes'. -/
theorem Now.cur_ge (N : Now W w nb B mi ch d ls cv dn mk i seq stamp dig hd st v ms) {g : Nat} (hg : v.ownBlock = some g) : B + 5 ≤ g ∧ g ≠ nb ∧ g ≠ nb + 1 := by
  have hl := N.lo
  rcases N.sep with h | ⟨g', h1, h2⟩
  · have := N.old i N.at3 g (h ▸ hg)
    omega
  · rw [h2] at hg
    cases hg
    omega

/-- A store into a block of the reader or of the call's own: what else there is stays. -/
theorem Now.cells (N : Now W w nb B mi ch d ls cv dn mk i seq stamp dig hd st v ms) (hl : hd.length = 17) (hb : Below w.heap.size w w') :
    (w'.cell? ⟨B + 3, 0, none⟩ = some (.pointer (some ⟨B + 2, 0, none⟩)) ∧ w'.cell? ⟨B + 3, 3, none⟩ = some (.string (devName dn)) ∧ w'.cell? ⟨B + 3, 4, none⟩ = some (.int .u64 mk) ∧
    w'.cell? ⟨B + 2, 16, none⟩ = some (.map (some B)) ∧ w'.cell? ⟨B + 2, 17, none⟩ = some (.int .i64 ch) ∧ w'.cell? ⟨B + 2, 18, none⟩ = some (.string (marksName mi)) ∧ w'.cell? ⟨B + 2, 19, none⟩ = some (.map (some (B + 1)))) ∧
    (w'.cell? ⟨nb, 0, none⟩ = some (.string (nm i)) ∧ w'.cell? ⟨nb, 1, none⟩ = some (.int .u64 seq) ∧ w'.cell? ⟨nb, 2, none⟩ = some (.int .u64 stamp) ∧ w'.cell? ⟨nb, 13, none⟩ = some (.string (hx dig))) ∧
    (w'.cell? ⟨nb + 1, 17, none⟩ = some (.int .u64 st) ∧ w'.cell? ⟨nb + 1, 18, none⟩ = some v ∧ w'.rangeAt (nb + 1) 0 (hd ++ [.int .u64 st, v])) := by
  have N' := N.later hb
  have c := N'.c
  have r := N'.cr
  have l := N'.line
  refine ⟨⟨?_, ?_, ?_, ?_, ?_, ?_, ?_⟩, ⟨?_, ?_, ?_, ?_⟩, box_cells N'.box hl⟩
  · rw [cell_of_row w' _ 0 _ 34 (0, 0) r]; rfl
  · rw [cell_of_row w' _ 3 _ 34 (0, 0) r]; rfl
  · rw [cell_of_row w' _ 4 _ 34 (0, 0) r]; rfl
  · rw [cell_of_row w' _ 16 _ 29 (0, 0) c]; rfl
  · rw [cell_of_row w' _ 17 _ 29 (0, 0) c]; rfl
  · rw [cell_of_row w' _ 18 _ 29 (0, 0) c]; rfl
  · rw [cell_of_row w' _ 19 _ 29 (0, 0) c]; rfl
  · rw [cell_of_row w' _ 0 _ 55 (0, 0) l]; rfl
  · rw [cell_of_row w' _ 1 _ 55 (0, 0) l]; rfl
  · rw [cell_of_row w' _ 2 _ 55 (0, 0) l]; rfl
  · rw [cell_of_row w' _ 13 _ 55 (0, 0) l]; rfl

/-- The library's variable stays. -/
theorem Now.ev (N : Now W w nb B mi ch d ls cv dn mk i seq stamp dig hd st v ms) {ev : Value} (hB : 0 < B) (hE : W.cell? ⟨0, 0, none⟩ = some ev) : w.cell? ⟨0, 0, none⟩ = some ev := by
  have h0 := World.block_lt_of_cell? W ⟨0, 0, none⟩ hE
  have hlo := N.lo
  have := N.kept.block 0 h0 (by omega) (by omega) (by omega) (fun e => by have := (N.old i N.at3 0 e.symm).1; omega)
  rw [← hE]
  simp only [World.cell?, this]

theorem cell_other (w : World) (c o : Nat) (u : Value) (b j : Nat) (h : b ≠ c) : (w.setCell ⟨c, o, none⟩ u).cell? ⟨b, j, none⟩ = w.cell? ⟨b, j, none⟩ := by
  simp only [World.cell?, Below.heap_setCell w ⟨c, o, none⟩ u b h]

theorem cell_of_block {w w' : World} {b : Nat} (h : w'.heap[b]? = w.heap[b]?) (j : Nat) : w'.cell? ⟨b, j, none⟩ = w.cell? ⟨b, j, none⟩ := by
  simp only [World.cell?, h]

/-- The reader before the line is taken. -/
theorem Now.start (R : Rd W B mi ch d ls cv dn mk) (hi : i < 3) (hB : B + 5 ≤ W.heap.size) (hb : Below W.heap.size W w) (line : w.heap[W.heap.size]? = some (.cells (lineCells i seq stamp dig) 55 (0, 0)))
    (box : w.heap[W.heap.size + 1]? = some (.cells (hd ++ [.int .u64 st, cv i]).toArray 65 (0, 0))) : Now W w W.heap.size B mi ch d ls cv dn mk i seq stamp dig hd st (cv i) (d i).marks := by
  have R' := R.below hb
  exact ⟨R'.c, R'.cr, R'.covers, R'.lines, fun j hj _ => R'.own j hj, R'.own i hi, .inl rfl, line, box, ⟨hb.os, hb.tape, hb.output, hb.size, fun q a _ _ _ _ => hb.block q a⟩, rfl, hB, fun j hj g hg => ownBlock_lt (R.own j hj) hg, R.apart, hi⟩

/-- 'linesAt[l.device] = changesAt'. -/
theorem Now.lined (N : Now W w nb B mi ch d ls cv dn mk i seq stamp dig hd st v ms) : ∃ w', (Instr.mapUpdate 25 (.map (some (B + 1))) (.string (nm i)) (.int .i64 ch)).run Ybaf.prog w = .ok () w' ∧ Now W w' nb B mi ch d (upd ls i true) cv dn mk i seq stamp dig hd st v ms ∧ w'.heap.size = w.heap.size := by
  obtain ⟨w', hrun, hm, hg, hs⟩ := N.lines.store N.at3 (.int .i64 ch) Ybaf.underlying25
  have hlo := N.lo
  have hk : ∀ q, q < w.heap.size → q ≠ B + 1 → w'.heap[q]? = w.heap[q]? := fun q h1 h2 => hg.block q h1 (by simpa using h2)
  refine ⟨w', hrun, ⟨(hk _ (lt_of_block N.c) (by omega)).trans N.c, (hk _ (lt_of_block N.cr) (by omega)).trans N.cr, N.covers.kept (hk _ N.covers.lt (by omega)), ?_,
    fun j hj hne => ownsRow_of_block (N.own j hj hne) fun g hg => hk g (ownBlock_lt (N.own j hj hne) hg).2 (by have := (ownBlock_lt (N.own j hj hne) hg).1; omega),
    ownsRow_of_block N.cur fun g hg => hk g (ownBlock_lt N.cur hg).2 (by have := (ownBlock_lt N.cur hg).1; omega), N.sep, (hk _ (lt_of_block N.line) (by omega)).trans N.line, (hk _ (lt_of_block N.box) (by omega)).trans N.box,
    ⟨hg.os.trans N.kept.os, hg.tape.trans N.kept.tape, hg.output.trans N.kept.output, by rw [hs]; exact N.kept.size, fun q a b c e f => (hk q (Nat.lt_of_lt_of_le a N.kept.size) c).trans (N.kept.block q a b c e f)⟩, N.top, N.lo, N.old, N.apart, N.at3⟩, hs⟩
  have : (fun j => Value.int .i64 (if upd ls i true j then ch else 0)) = upd (fun j => Value.int .i64 (if ls j then ch else 0)) i (.int .i64 ch) := by
    funext j
    unfold upd
    by_cases e : j = i <;> simp [e]
  rw [this]
  exact hm

/-- The reader's box is written. -/
theorem Now.stood (N : Now W w nb B mi ch d ls cv dn mk i seq stamp dig hd st v ms) {dn' : Option Nat} {mk' : Int} (hg : w.grownBy w' (some (B + 3))) (hr : w'.heap[B + 3]? = some (.cells (crRow B dn' mk') 34 (0, 0))) (hs : w'.heap.size = w.heap.size) :
    Now W w' nb B mi ch d ls cv dn' mk' i seq stamp dig hd st v ms := by
  have hlo := N.lo
  have hk : ∀ q, q < w.heap.size → q ≠ B + 3 → w'.heap[q]? = w.heap[q]? := fun q h1 h2 => hg.block q h1 (by simpa using h2)
  exact ⟨(hk _ (lt_of_block N.c) (by omega)).trans N.c, hr, N.covers.kept (hk _ N.covers.lt (by omega)), N.lines.kept (hk _ N.lines.lt (by omega)),
    fun j hj hne => ownsRow_of_block (N.own j hj hne) fun g hg => hk g (ownBlock_lt (N.own j hj hne) hg).2 (by have := (ownBlock_lt (N.own j hj hne) hg).1; omega),
    ownsRow_of_block N.cur fun g hg => hk g (ownBlock_lt N.cur hg).2 (by have := (ownBlock_lt N.cur hg).1; omega), N.sep, (hk _ (lt_of_block N.line) (by omega)).trans N.line, (hk _ (lt_of_block N.box) (by omega)).trans N.box,
    ⟨hg.os.trans N.kept.os, hg.tape.trans N.kept.tape, hg.output.trans N.kept.output, by rw [hs]; exact N.kept.size, fun q a b c e f => (hk q (Nat.lt_of_lt_of_le a N.kept.size) e).trans (N.kept.block q a b c e f)⟩, N.top, N.lo, N.old, N.apart, N.at3⟩

theorem setCell_row {w : World} {b j : Nat} {cs : Array Value} {t : TypeId} (h : w.heap[b]? = some (.cells cs t (0, 0))) (u : Value) : (w.setCell ⟨b, j, none⟩ u).heap[b]? = some (.cells (cs.setIfInBounds j u) t (0, 0)) := by
  rw [setCell_eq_setRow w b j cs t (0, 0) u h]; exact setRow_heap w b cs _ t (0, 0) h
theorem setCell_grown (w : World) (b j : Nat) (u : Value) : w.grownBy (w.setCell ⟨b, j, none⟩ u) (some b) ∧ (w.setCell ⟨b, j, none⟩ u).heap.size = w.heap.size :=
  ⟨⟨rfl, rfl, rfl, by simp [World.setCell], fun q _ h => Below.heap_setCell _ _ _ _ (by simpa using h)⟩, by simp [World.setCell]⟩
/-- 'cr.device, cr.mark = l.device, l.seq'. -/
theorem Now.marked (N : Now W w nb B mi ch d ls cv dn mk i seq stamp dig hd st v ms) (q : Nat) : Now W (((w.drewN q).setCell ⟨B + 3, 3, none⟩ (.string (nm i))).setCell ⟨B + 3, 4, none⟩ (.int .u64 seq)) nb B mi ch d ls cv (some i) seq i seq stamp dig hd st v ms := by
  have N1 := N.later (below_drewN (Below.refl _ w) q)
  obtain ⟨g1, s1⟩ := setCell_grown (w.drewN q) (B + 3) 3 (.string (nm i))
  have r1 : ((w.drewN q).setCell ⟨B + 3, 3, none⟩ (.string (nm i))).heap[B + 3]? = some (.cells (crRow B (some i) mk) 34 (0, 0)) := setCell_row N1.cr _
  have N2 := N1.stood g1 r1 s1
  obtain ⟨g2, s2⟩ := setCell_grown ((w.drewN q).setCell ⟨B + 3, 3, none⟩ (.string (nm i))) (B + 3) 4 (.int .u64 seq)
  exact N2.stood g2 (setCell_row r1 _) s2
/-- 'cr.device = ""'. -/
theorem Now.unmarked (N : Now W w nb B mi ch d ls cv dn mk i seq stamp dig hd st v ms) : Now W (w.setCell ⟨B + 3, 3, none⟩ (.string ⟨#[]⟩)) nb B mi ch d ls cv none mk i seq stamp dig hd st v ms := by
  obtain ⟨g1, s1⟩ := setCell_grown w (B + 3) 3 (.string ⟨#[]⟩)
  exact N.stood g1 (setCell_row N.cr _) s1

/-- The coverage's box is written. -/
theorem Now.boxed (N : Now W w nb B mi ch d ls cv dn mk i seq stamp dig hd st v ms) {hd' : List Value} {st' : Int} (hg : w.grownBy w' (some (nb + 1))) (hr : w'.heap[nb + 1]? = some (.cells (hd' ++ [.int .u64 st', v]).toArray 65 (0, 0))) (hs : w'.heap.size = w.heap.size) :
    Now W w' nb B mi ch d ls cv dn mk i seq stamp dig hd' st' v ms := by
  have hlo := N.lo
  have htop := N.top
  have hk : ∀ q, q < w.heap.size → q ≠ nb + 1 → w'.heap[q]? = w.heap[q]? := fun q h1 h2 => hg.block q h1 (by simpa using h2)
  exact ⟨(hk _ (lt_of_block N.c) (by omega)).trans N.c, (hk _ (lt_of_block N.cr) (by omega)).trans N.cr, N.covers.kept (hk _ N.covers.lt (by omega)), N.lines.kept (hk _ N.lines.lt (by omega)),
    fun j hj hne => ownsRow_of_block (N.own j hj hne) fun g hg => hk g (ownBlock_lt (N.own j hj hne) hg).2 (by have := (N.old j hj g hg).2; omega),
    ownsRow_of_block N.cur fun g hg => hk g (ownBlock_lt N.cur hg).2 (N.cur_ge hg).2.2, N.sep, (hk _ (lt_of_block N.line) (by omega)).trans N.line, hr,
    ⟨hg.os.trans N.kept.os, hg.tape.trans N.kept.tape, hg.output.trans N.kept.output, by rw [hs]; exact N.kept.size, fun q a b c e f => (hk q (Nat.lt_of_lt_of_le a N.kept.size) (by omega)).trans (N.kept.block q a b c e f)⟩, N.top, N.lo, N.old, N.apart, N.at3⟩

theorem setCells_row {b : Nat} {t : TypeId} : ∀ (vs pre mid suf : List Value) {w : World}, w.heap[b]? = some (.cells (pre ++ mid ++ suf).toArray t (0, 0)) → mid.length = vs.length → (w.setCells b pre.length vs).heap[b]? = some (.cells (pre ++ vs ++ suf).toArray t (0, 0))
  | [], pre, mid, suf, w, h, hl => by
    obtain rfl : mid = [] := List.eq_nil_of_length_eq_zero hl
    exact h
  | u :: vs, pre, [], suf, w, h, hl => by simp at hl
  | u :: vs, pre, m :: mid, suf, w, h, hl => by
    have h1 := setCell_row (j := pre.length) h u
    have e : (pre ++ (m :: mid) ++ suf).toArray.setIfInBounds pre.length u = ((pre ++ [u]) ++ mid ++ suf).toArray := by
      apply Array.ext'
      simp
    rw [e] at h1
    have := setCells_row vs (pre ++ [u]) mid suf h1 (by simpa using hl)
    simpa [World.setCells] using this
theorem setCells_grown (b : Nat) : ∀ (vs : List Value) (o : Nat) (w : World), w.grownBy (w.setCells b o vs) (some b) ∧ (w.setCells b o vs).heap.size = w.heap.size
  | [], _, w => ⟨⟨rfl, rfl, rfl, Nat.le_refl _, fun _ _ _ => rfl⟩, rfl⟩
  | u :: vs, o, w => by
    obtain ⟨g1, s1⟩ := setCell_grown w b o u
    obtain ⟨g2, s2⟩ := setCells_grown b vs (o + 1) (w.setCell ⟨b, o, none⟩ u)
    exact ⟨⟨g2.os.trans g1.os, g2.tape.trans g1.tape, g2.output.trans g1.output, Nat.le_trans g1.size g2.size, fun q hq hne => (g2.block q (by rw [s1]; exact hq) hne).trans (g1.block q hq hne)⟩, s2.trans s1⟩
/-- 'cv.head, cv.stamp = head{..}, l.stamp'. -/
theorem Now.headed (N : Now W w nb B mi ch d ls cv dn mk i seq stamp dig hd st v ms) (h17 : List Value) (hl : h17.length = 17) (hl0 : hd.length = 17) (st' : Int) : Now W ((w.setCells (nb + 1) 0 h17).setCell ⟨nb + 1, 17, none⟩ (.int .u64 st')) nb B mi ch d ls cv dn mk i seq stamp dig h17 st' v ms ∧
    (w.setCells (nb + 1) 0 h17).heap[nb + 1]? = some (.cells (h17 ++ [.int .u64 st, v]).toArray 65 (0, 0)) := by
  have r1 : (w.setCells (nb + 1) 0 h17).heap[nb + 1]? = some (.cells (h17 ++ [.int .u64 st, v]).toArray 65 (0, 0)) := setCells_row h17 [] hd [.int .u64 st, v] (by simpa using N.box) (by omega)
  obtain ⟨g1, s1⟩ := setCells_grown (nb + 1) h17 0 w
  have N1 := N.boxed g1 r1 s1
  obtain ⟨g2, s2⟩ := setCell_grown (w.setCells (nb + 1) 0 h17) (nb + 1) 17 (.int .u64 st')
  refine ⟨N1.boxed g2 ((setCell_row r1 _).trans ?_) s2, r1⟩
  congr 2
  apply Array.ext'
  simp only [List.setIfInBounds_toArray]
  rw [List.set_append_right _ _ (by omega), hl]
  rfl
theorem Now.there17 (N : Now W w nb B mi ch d ls cv dn mk i seq stamp dig hd st v ms) (hl0 : hd.length = 17) : w.there (nb + 1) 0 17 := fun j hj => by
  rw [Nat.zero_add, cell_of_row w (nb + 1) j _ 65 (0, 0) N.box, List.getElem?_toArray, List.getElem?_append_left (by omega), List.getElem?_eq_getElem (by omega)]
  exact ⟨rfl, free_of_row N.box⟩
theorem store17 (b : Nat) (h17 : List Value) (hl : h17.length = 17) (h1 : ∀ v ∈ h17, v.oneCell' = true) (w : World) (ht : w.there b 0 17) : (storeCells ⟨b, 0, none⟩ h17).run Ybaf.prog w = .ok () (w.setCells b 0 h17) := by
  have := run_storeCells_cells (P := Ybaf.prog) b 0 h17 0 w (fun j hj => by simpa using (ht j (by omega)).1) (fun j hj => by simpa using (ht j (by omega)).2) h1
  simpa using this
theorem there_setCell {w : World} {b n : Nat} (h : w.there b 0 n) (c o : Nat) (u : Value) : (w.setCell ⟨c, o, none⟩ u).there b 0 n := by
  have := World.there_setCells h c o [u]
  simpa [World.setCells] using this
/-- The making of a head, under a name of its own. -/
def heldBuild (P : Program) (t : TypeId) (parts : Array (Nat × Value)) (w : World) : Result Value := (Instr.build t parts).run P w
theorem holdB62 (ev : Operand → Value) (dst : Option Tmp) (x y : Operand) (t : TypeId) (pos : String) (af : Array Edge) (g : Option (Nat × Bool)) (w : World) :
    (execOp ev { dst := dst, op := .build 62 #[(0, x), (1, y)], type := t, pos := pos, after := af, guard := g }).run Ybaf.prog w = (heldBuild Ybaf.prog 62 #[(0, ev x), (1, ev y)] w).andThen fun v w' => .ok (.value v) w' := by
  simp only [execOp, heldBuild, Sem.run_bind, Sem.run_pure, List.map_toArray, List.map_cons, List.map_nil]

/-- The making of a slice of one head, under a name of its own. -/
def heldSlice (P : Program) (t : TypeId) (n : Nat) (parts : Array (Nat × Value)) (w : World) : Result Value := (Instr.buildSlice t n parts).run P w
theorem holdS63 (ev : Operand → Value) (dst : Option Tmp) (x : Operand) (t : TypeId) (pos : String) (af : Array Edge) (g : Option (Nat × Bool)) (w : World) :
    (execOp ev { dst := dst, op := .buildSlice 63 1 #[(0, x)], type := t, pos := pos, after := af, guard := g }).run Ybaf.prog w = (heldSlice Ybaf.prog 63 1 #[(0, ev x)] w).andThen fun v w' => .ok (.value v) w' := by
  simp only [execOp, heldSlice, Sem.run_bind, Sem.run_pure, List.map_toArray, List.map_cons, List.map_nil]
def zero62 : Value := .agg #[.int .u64 0, .int .u8 0, .int .u8 0, .int .u8 0, .int .u8 0, .int .u8 0, .int .u8 0, .int .u8 0, .int .u8 0, .int .u8 0, .int .u8 0, .int .u8 0, .int .u8 0, .int .u8 0, .int .u8 0, .int .u8 0, .int .u8 0]
theorem info62 : (Ybaf.prog.info? 62).map (fun i => (i.zero, i.size, i.bytes)) = some (some zero62, 17, 24) := by kernel_rfl
theorem ownsRow_form {w : World} {base : Nat} {e : TypeId} {size : Nat} {v : Value} {n : Nat} {xs : List Value} (h : w.ownsRow base e size v n xs) : ∃ ao c, v = .slice ao n c := by
  rcases h.2 with ⟨h1, h0⟩ | ⟨g, cap, _, h1, _⟩
  · exact ⟨none, 0, by rw [h1, h0]⟩
  · exact ⟨_, _, h1⟩
theorem markCells_snoc (ms : List (Int × Int)) (s x : Int) : markCells (ms ++ [(s, x)]) = markCells ms ++ headCells s x := by
  unfold markCells
  rw [List.flatMap_append]
  simp

/-- The marks grow, and the box with them. -/
theorem Now.grown (N : Now W w nb B mi ch d ls cv dn mk i seq stamp dig hd st v ms) {v' : Value} {ms' : List (Int × Int)} (hg : w.grownBy w' v.ownBlock) (ho : w'.ownsRow (B + 5) 62 17 v' ms'.length (markCells ms')) (ha : v'.ownBlock = v.ownBlock ∨ v'.ownBlock = some w.heap.size) (hl : hd.length = 17) :
    Now W (w'.setCell ⟨nb + 1, 18, none⟩ v') nb B mi ch d ls cv dn mk i seq stamp dig hd st v' ms' := by
  have hlo := N.lo
  have htop := N.top
  have hab := N.above
  have hs := hg.size
  have hne1 : ∀ {q}, q ≠ nb + 1 → (w'.setCell ⟨nb + 1, 18, none⟩ v').heap[q]? = w'.heap[q]? := fun h => Below.heap_setCell _ _ _ _ (by simpa using h)
  have hk : ∀ q, q < w.heap.size → q ≠ nb + 1 → some q ≠ v.ownBlock → (w'.setCell ⟨nb + 1, 18, none⟩ v').heap[q]? = w.heap[q]? := fun q h1 h2 h3 => (hne1 h2).trans (hg.block q h1 h3)
  have hv : ∀ q, q < B + 5 → some q ≠ v.ownBlock := fun q h e => by have := (N.cur_ge e.symm).1; omega
  have hbox : w'.heap[nb + 1]? = some (.cells (hd ++ [.int .u64 st, v]).toArray 65 (0, 0)) := (hg.block (nb + 1) (by omega) (fun e => (N.cur_ge e.symm).2.2 rfl)).trans N.box
  have hsep : v'.ownBlock = (cv i).ownBlock ∨ ∃ g, nb + 2 ≤ g ∧ v'.ownBlock = some g := by
    rcases ha with h | h
    · rcases N.sep with h' | ⟨g, h1, h2⟩
      · exact .inl (h.trans h')
      · exact .inr ⟨g, h1, h.trans h2⟩
    · exact .inr ⟨_, hab, h⟩
  have hne' : ∀ g, v'.ownBlock = some g → g ≠ nb + 1 := fun g hgv => by
    rcases hsep with h | ⟨g', h1, h2⟩
    · have := (N.old i N.at3 g (h ▸ hgv)).2; omega
    · rw [h2] at hgv; cases hgv; omega
  refine ⟨(hk _ (lt_of_block N.c) (by omega) (hv _ (by omega))).trans N.c, (hk _ (lt_of_block N.cr) (by omega) (hv _ (by omega))).trans N.cr, N.covers.kept (hk _ N.covers.lt (by omega) (hv _ (by omega))), N.lines.kept (hk _ N.lines.lt (by omega) (hv _ (by omega))),
    fun j hj hne => ownsRow_of_block (N.own j hj hne) fun g hgj => ?_,
    ownsRow_of_block ho fun g hgv => hne1 (hne' g hgv), hsep, (hk _ (lt_of_block N.line) (by omega) (fun e => (N.cur_ge e.symm).2.1 rfl)).trans N.line, ?_,
    ⟨hg.os.trans N.kept.os, hg.tape.trans N.kept.tape, hg.output.trans N.kept.output, ?_, fun q a b c e f => ?_⟩, N.top, N.lo, N.old, N.apart, N.at3⟩
  · have ho := N.old j hj g hgj
    refine hk g (by omega) (by omega) (fun e => ?_)
    rcases N.sep with h | ⟨g', h1, h2⟩
    · exact N.apart i j N.at3 hj hne.symm g (by rw [← h]; exact e.symm) hgj
    · rw [h2] at e; cases e; omega
  · rw [setCell_eq_setRow w' (nb + 1) 18 _ 65 (0, 0) v' hbox]
    refine (setRow_heap w' (nb + 1) _ _ 65 (0, 0) hbox).trans ?_
    congr 2
    apply Array.ext'
    simp only [List.setIfInBounds_toArray]
    rw [List.set_append_right _ _ (by omega), hl]
    rfl
  · simpa [World.setCell] using Nat.le_trans N.kept.size hs
  · refine (hk q (Nat.lt_of_lt_of_le a N.kept.size) (by omega) (fun h => ?_)).trans (N.kept.block q a b c e f)
    rcases N.sep with h' | ⟨g', h1, h2⟩
    · exact f (h.trans h')
    · rw [h2] at h; cases h; omega

/-- A load of a whole coverage, under a name of its own: so that the walk does not lay it open. -/
def heldLoad (P : Program) (t : TypeId) (x : Value) (w : World) : Result Value := (Instr.loadAt t x).run P w
theorem hold65 (ev : Operand → Value) (dst : Option Tmp) (x : Operand) (t : TypeId) (pos : String) (af : Array Edge) (g : Option (Nat × Bool)) (w : World) :
    (execOp ev { dst := dst, op := .load 65 x, type := t, pos := pos, after := af, guard := g }).run Ybaf.prog w = (heldLoad Ybaf.prog 65 (ev x) w).andThen fun v w' => .ok (.value v) w' := by
  simp only [execOp, heldLoad, Sem.run_bind, Sem.run_pure]
theorem load65_at (w : World) (b : Nat) (cs : List Value) (h : w.rangeAt b 0 cs) (hl : cs.length = 19) : heldLoad Ybaf.prog 65 (.pointer (some ⟨b, 0, none⟩)) w = .ok (.agg cs.toArray) w :=
  run_loadAt_mid (P := Ybaf.prog) w b 0 65 cs _ h Ybaf.underlying65 rfl (by rw [hl]; kernel_rfl)

/-- What take leaves where it takes: device i is now e. -/
def Accept (W w' : World) (B : Nat) (mi : Bool) (ch : Int) (d : Nat → Dev) (ls : Nat → Bool) (cv : Nat → Value) (dn : Option Nat) (mk : Int) (i : Nat) (e : Dev) : Prop :=
  ∃ v', Rd w' B mi ch (upd d i e) ls (upd cv i v') dn mk ∧ (v'.ownBlock = (cv i).ownBlock ∨ ∃ g, W.heap.size ≤ g ∧ v'.ownBlock = some g) ∧ Kept W w' B (cv i)

theorem Now.done (N : Now W w nb B mi ch d ls cv dn mk i seq stamp dig hd st v ms) (e : Dev) (he : cov e v = .agg (hd ++ [.int .u64 st, v]).toArray) (hp : e.present = true) (hm : e.marks = ms) :
    ∃ w', (Instr.mapUpdate 24 (.map (some B)) (.string (nm i)) (.agg (hd ++ [.int .u64 st, v]).toArray)).run Ybaf.prog w = .ok () w' ∧ Accept W w' B mi ch d ls cv dn mk i e ∧ ∀ q, q < w.heap.size → q ≠ B → w'.heap[q]? = w.heap[q]? := by
  obtain ⟨w', hrun, hmp, hg, hs⟩ := N.covers.store N.at3 (.agg (hd ++ [.int .u64 st, v]).toArray) Ybaf.underlying24
  have hlo := N.lo
  have htop := N.top
  have hk : ∀ q, q < w.heap.size → q ≠ B → w'.heap[q]? = w.heap[q]? := fun q h1 h2 => hg.block q h1 (by simpa using h2)
  refine ⟨w', hrun, ⟨v, ⟨(hk _ (lt_of_block N.c) (by omega)).trans N.c, (hk _ (lt_of_block N.cr) (by omega)).trans N.cr, ?_, N.lines.kept (hk _ N.lines.lt (by omega)), fun j hj => ?_, fun a b ha hb hab g hga => ?_⟩, ?_,
    ⟨hg.os.trans N.kept.os, hg.tape.trans N.kept.tape, hg.output.trans N.kept.output, by rw [hs]; exact N.kept.size, fun q a b c e f => (hk q (Nat.lt_of_lt_of_le a N.kept.size) b).trans (N.kept.block q a b c e f)⟩⟩, hk⟩
  · have e1 : (fun j => (upd d i e j).present) = upd (fun j => (d j).present) i true := by
      funext j
      by_cases h : j = i
      · subst h; rw [upd_same, upd_same, hp]
      · rw [upd_other _ _ h, upd_other _ _ h]
    have e2 : (fun j => cov (upd d i e j) (upd cv i v j)) = upd (fun j => cov (d j) (cv j)) i (.agg (hd ++ [.int .u64 st, v]).toArray) := by
      funext j
      by_cases h : j = i
      · subst h; rw [upd_same, upd_same, upd_same, he]
      · rw [upd_other _ _ h, upd_other _ _ h, upd_other _ _ h]
    rw [e1, e2]
    exact hmp
  · by_cases h : j = i
    · subst h
      rw [upd_same, upd_same, hm]
      exact ownsRow_of_block N.cur fun g hg => hk g (ownBlock_lt N.cur hg).2 (by have := (ownBlock_lt N.cur hg).1; omega)
    · rw [upd_other _ _ h, upd_other _ _ h]
      exact ownsRow_of_block (N.own j hj h) fun g hg => hk g (ownBlock_lt (N.own j hj h) hg).2 (by have := (ownBlock_lt (N.own j hj h) hg).1; omega)
  · by_cases ai : a = i
    · subst ai
      rw [upd_same] at hga
      rw [upd_other _ _ (Ne.symm hab)]
      intro hgb
      rcases N.sep with h | ⟨g', h1, h2⟩
      · exact N.apart a b ha hb hab g (h ▸ hga) hgb
      · have := (N.old b hb g hgb).2
        rw [h2] at hga; cases hga; omega
    · rw [upd_other _ _ ai] at hga
      by_cases bi : b = i
      · subst bi
        rw [upd_same]
        intro hgb
        rcases N.sep with h | ⟨g', h1, h2⟩
        · exact N.apart a b ha hb hab g hga (h ▸ hgb)
        · have := (N.old a ha g hga).2
          rw [h2] at hgb; cases hgb; omega
      · rw [upd_other _ _ bi]
        exact N.apart a b ha hb hab g hga
  · rcases N.sep with h | ⟨g, h1, h2⟩
    · exact .inl h
    · exact .inr ⟨g, by omega, h2⟩
end
end Go.Proofs.YbulkantuFmt
