/-
  DERIVED. WHAT THE LAW's LAST LOOPS READ.
-/
import Derived.Test.YbulkantuFmtEnds
import Derived.ChangeKeysEq
import Derived.Laws.StructEq
namespace Go.Proofs.YbulkantuFmt
open Go.RowKit Go.Extern.Stop Go.Stop Go.Extern

/-- How many of the first j hold. -/
def cnt (h : Nat → Bool) : Nat → Nat
  | 0 => 0
  | j + 1 => cnt h j + (h j).toNat
theorem cnt_three (h : Nat → Bool) : (h 0).toNat + (h 1).toNat + (h 2).toNat = cnt h 3 := by simp [cnt]
theorem cnt_le (h : Nat → Bool) (j : Nat) : cnt h j ≤ j := by
  induction j with
  | zero => simp [cnt]
  | succ j ih => simp only [cnt]; have := Bool.toNat_le (h j); omega
theorem cnt_yes {h : Nat → Bool} {j : Nat} (e : h j = true) : cnt h (j + 1) = cnt h j + 1 := by simp [cnt, e]
theorem cnt_no {h : Nat → Bool} {j : Nat} (e : h j = false) : cnt h (j + 1) = cnt h j := by simp [cnt, e]

theorem flat_at {α β : Type} (F : α → List β) (c : Nat) (hF : ∀ a, (F a).length = c) : ∀ (m : List α) (k f : Nat) (p : α), m[k]? = some p → f < c → (m.flatMap F)[k * c + f]? = (F p)[f]?
  | [], k, f, p, h, _ => by simp at h
  | a :: m, 0, f, p, h, hf => by
    simp only [List.getElem?_cons_zero, Option.some.injEq] at h
    subst h
    rw [List.flatMap_cons, Nat.zero_mul, Nat.zero_add, List.getElem?_append_left (by rw [hF]; exact hf)]
  | a :: m, k + 1, f, p, h, hf => by
    rw [List.getElem?_cons_succ] at h
    rw [List.flatMap_cons, List.getElem?_append_right (by rw [hF, Nat.succ_mul]; omega), hF, show (k + 1) * c + f - c = k * c + f by rw [Nat.succ_mul]; omega]
    exact flat_at F c hF m k f p h hf

theorem slice_form {w : World} {base : Nat} {e : TypeId} {size : Nat} {v : Value} {n : Nat} {xs : List Value} (h : w.ownsRow base e size v n xs) : ∃ p cap, v = .slice p n cap := by
  rcases h.2 with ⟨rfl, rfl⟩ | ⟨g, cap, _, rfl, _⟩
  · exact ⟨none, 0, rfl⟩
  · exact ⟨_, cap, rfl⟩

section
variable {W w w' : World} {B : Nat} {mi : Bool} {ch : Int} {d : Nat → Dev} {ls : Nat → Bool} {cv : Nat → Value} {dn : Option Nat} {mk : Int} {cs : List Value} {mv : Nat → Value}

/-- What the law reads of mark k of device j, in both rows. -/
theorem Duo.markAt (I : Duo W w B mi ch d ls cv dn mk cs mv (fun j => (d j).marks)) {j k : Nat} (hj : j < 3) (hk : k < (d j).marks.length) :
    ∃ q x g cap g' cap', cv j = .slice (some ⟨g, 0, none⟩) (d j).marks.length cap ∧ mv j = .slice (some ⟨g', 0, none⟩) (d j).marks.length cap' ∧ w.cell? ⟨g, k * 17, none⟩ = some (.int .u64 q) ∧ w.rangeAt g (k * 17 + 1) (sixteen x) ∧
      w.cell? ⟨g', k * 2, none⟩ = some (.int .u64 q) ∧ w.cell? ⟨g', k * 2 + 1, none⟩ = some (.int .u8 x) := by
  obtain ⟨g, cap, hv, _, hg⟩ := (I.rd.own j hj).form (by omega)
  obtain ⟨g', cap', hv', _, hg'⟩ := (I.own j hj).form (by show 0 < (d j).marks.length; omega)
  have hm : (d j).marks[k]? = some (d j).marks[k] := List.getElem?_eq_getElem hk
  have c1 := (I.rd.own j hj).cells (g := g) (by rw [hv]; rfl)
  have c2 := (I.own j hj).cells (g := g') (by rw [hv']; rfl)
  have a1 : ∀ o, (⟨g, 0, none⟩ : Addr).add o = ⟨g, o, none⟩ := fun o => by unfold Addr.add; split <;> simp_all
  have a2 : ∀ o, (⟨g', 0, none⟩ : Addr).add o = ⟨g', o, none⟩ := fun o => by unfold Addr.add; split <;> simp_all
  have f1 : ∀ f, f < 17 → (markCells (d j).marks)[k * 17 + f]? = (headCells (d j).marks[k].1 (d j).marks[k].2)[f]? := fun f hf => flat_at (fun p : Int × Int => headCells p.1 p.2) 17 (fun p => head_len _ _) _ k f _ hm hf
  have f2 : ∀ f, f < 2 → (pairCells (d j).marks)[k * 2 + f]? = [Value.int .u64 (d j).marks[k].1, .int .u8 (d j).marks[k].2][f]? := fun f hf => flat_at (fun p : Int × Int => [Value.int .u64 p.1, .int .u8 p.2]) 2 (fun p => rfl) _ k f _ hm hf
  refine ⟨(d j).marks[k].1, (d j).marks[k].2, g, cap, g', cap', hv, hv', ?_, ?_, ?_, ?_⟩
  · rw [← a1]; exact c1 (k * 17) _ ((f1 0 (by omega)).trans rfl)
  · intro o u ho
    have ho16 : o < 16 := by
      have := (List.getElem?_eq_some_iff.1 ho).1
      unfold sixteen at this
      rwa [List.length_replicate] at this
    rw [← a1, Nat.add_assoc, Nat.add_comm 1 o]
    refine c1 (k * 17 + (o + 1)) _ ((f1 (o + 1) (by omega)).trans ?_)
    rw [headCells, List.getElem?_cons_succ]; exact ho
  · rw [← a2]; exact c2 (k * 2) _ ((f2 0 (by omega)).trans rfl)
  · rw [← a2]; exact c2 (k * 2 + 1) _ ((f2 1 (by omega)).trans rfl)
end

/-- A load of a digest, and the comparison of two, under names of their own. -/
theorem hold27 (ev : Operand → Value) (dst : Option Tmp) (x : Operand) (t : TypeId) (pos : String) (af : Array Edge) (g : Option (Nat × Bool)) (w : World) :
    (execOp ev { dst := dst, op := .load 27 x, type := t, pos := pos, after := af, guard := g }).run Ybaf.prog w = (heldLoad Ybaf.prog 27 (ev x) w).andThen fun v w' => .ok (.value v) w' := by
  simp only [execOp, heldLoad, Sem.run_bind, Sem.run_pure]
theorem load27_at (w : World) (b o : Nat) (cs : List Value) (h : w.rangeAt b o cs) (hl : cs.length = 16) : heldLoad Ybaf.prog 27 (.pointer (some ⟨b, o, none⟩)) w = .ok (.agg cs.toArray) w :=
  run_loadAt_mid (P := Ybaf.prog) w b o 27 cs _ h Ybaf.underlying27 rfl (by rw [hl]; kernel_rfl)
def heldNeq (P : Program) (x y : Operand) (u v : Value) (w : World) : Result Value := (do eqGuard .neq 27 x y u v; binOp .neq 27 u v : Sem Value).run P w
theorem holdN27 (ev : Operand → Value) (dst : Option Tmp) (x y : Operand) (t2 t : TypeId) (pos : String) (af : Array Edge) (g : Option (Nat × Bool)) (w : World) :
    (execOp ev { dst := dst, op := .binOp .neq 27 x y t2, type := t, pos := pos, after := af, guard := g }).run Ybaf.prog w = (heldNeq Ybaf.prog x y (ev x) (ev y) w).andThen fun v w' => .ok (.value v) w' := by
  simp only [execOp, heldNeq, Sem.run_bind, Sem.run_pure]
theorem eqItems_same (w : World) (n : Int) : ∀ is : List Nat, (∀ i ∈ is, i < 16) → (Op.eqItems 9999 5 (Ybaf.prog.cellsOf 5) (Array.replicate 16 (.int .u8 n)) (Array.replicate 16 (.int .u8 n)) is).run Ybaf.prog w = .ok true w
  | [], _ => by simp [Op.eqItems]
  | i :: is, h => by
    have hi : i * Ybaf.prog.cellsOf 5 < 16 := by rw [show Ybaf.prog.cellsOf 5 = 1 by kernel_rfl, Nat.mul_one]; exact h i (List.mem_cons_self ..)
    have hx : (Array.replicate 16 (Value.int .u8 n))[i * Ybaf.prog.cellsOf 5]? = some (.int .u8 n) := by rw [Array.getElem?_replicate, if_pos hi]
    have p1 := run_part_plain (P := Ybaf.prog) w (e := 5) (by kernel_rfl) hx
    have p2 := run_equalIn_int (P := Ybaf.prog) w 9998 5 .u8 .u8 n n Ybaf.underlying5
    simp only [Op.eqItems, Sem.run_bind, p1, p2, Result.andThen_ok, beq_self_eq_true, Bool.not_true, Bool.false_eq_true, if_false]
    exact eqItems_same w n is fun j hj => h j (List.mem_cons_of_mem _ hj)
theorem neq27_same (x y : Operand) (n : Int) (w : World) : heldNeq Ybaf.prog x y (.agg (sixteen n).toArray) (.agg (Array.replicate 16 (.int .u8 n))) w = .ok (.bool false) w := by
  have e : (sixteen n).toArray = Array.replicate 16 (.int .u8 n) := by unfold sixteen; exact List.toArray_replicate ..
  rw [e]
  have h := run_equalIn_array (P := Ybaf.prog) w 9999 (t := 27) (e := 5) (n := 16) (i := (Ybaf.prog.info? 5).getD default) (Array.replicate 16 (.int .u8 n)) (Array.replicate 16 (.int .u8 n)) Ybaf.underlying27 (by kernel_rfl)
  rw [eqItems_same w n _ (fun i hi => List.mem_range.1 hi)] at h
  have hg : (Ybaf.prog.eqGuardType Ybaf.prog.depth 27) = false := by kernel_rfl
  unfold heldNeq
  rw [Sem.run_bind, run_eqGuard_agg w .neq 27 x y _ _ hg, Result.andThen_ok]
  simp only [binOp, Op.equal, Op.maxDepth, Sem.run_bind, Sem.run_pure]
  rw [h]
  rfl
/-- The array's zero. -/
theorem neq27_zero (x y : Operand) (w : World) : heldNeq Ybaf.prog x y (.agg (sixteen 0).toArray) (.agg #[.int .u8 0, .int .u8 0, .int .u8 0, .int .u8 0, .int .u8 0, .int .u8 0, .int .u8 0, .int .u8 0, .int .u8 0, .int .u8 0, .int .u8 0, .int .u8 0, .int .u8 0, .int .u8 0, .int .u8 0, .int .u8 0]) w = .ok (.bool false) w := neq27_same x y 0 w

/-- A region whose every order comes to one frame, the world up to R. -/
theorem region_some {P : Program} {id : Nat} {ops : Array Oper} {b : Bool} {Q : Exit → Act → World → Prop} {a : Act} {w : World} (R : World → Prop) (A : Act) (h1 : (Code.region id ops b).wp P (fun e a' w' => e = .normal ∧ a' = A ∧ R w') a w) (h2 : ∀ w', R w' → Q .normal A w') : (Code.region id ops b).wp P Q a w :=
  Code.wp_mono (fun e a' w' h => by obtain ⟨rfl, rfl, hr⟩ := h; exact h2 w' hr) h1

def boxRow (e : Dev) (v : Value) : Array Value := (headCells (hseq e) (hdig e) ++ [Value.int .u64 e.stamp, v]).toArray
/-- What the law reads of a coverage in its box. -/
theorem box_all {w : World} {nb : Nat} {e : Dev} {v : Value} (D : w.heap[nb]? = some (.cells (boxRow e v) 65 (0, 0))) :
    w.cell? ⟨nb, 0, none⟩ = some (.int .u64 (hseq e)) ∧ w.rangeAt nb 1 (sixteen (hdig e)) ∧ w.cell? ⟨nb, 17, none⟩ = some (.int .u64 e.stamp) ∧ w.cell? ⟨nb, 18, none⟩ = some v := by
  obtain ⟨b17, b18, b0⟩ := box_cells D (head_len _ _)
  refine ⟨?_, fun o u ho => ?_, b17, b18⟩
  · rw [cell_of_row w nb 0 _ 65 (0, 0) D]; rfl
  · have ho16 : o < 16 := by
      have := (List.getElem?_eq_some_iff.1 ho).1
      unfold sixteen at this
      rwa [List.length_replicate] at this
    have := b0 (o + 1) u (by rw [List.getElem?_append_left (by rw [head_len]; omega), headCells, List.getElem?_cons_succ]; exact ho)
    rw [Nat.zero_add] at this
    rw [Nat.add_comm 1 o]
    exact this
theorem hseq_zero {e : Dev} (h : e.stamp = 0) : hseq e = 0 := if_pos h
theorem hdig_zero {e : Dev} (h : e.stamp = 0) : hdig e = 0 := if_pos h
theorem hseq_not {e : Dev} (h : e.stamp ≠ 0) : hseq e = e.seq := if_neg h
theorem hdig_not {e : Dev} (h : e.stamp ≠ 0) : hdig e = e.dig := if_neg h
theorem range_later {w w' : World} {b o : Nat} {cs : List Value} (h : w.rangeAt b o cs) (hb : Below w.heap.size w w') (hlt : b < w.heap.size) : w'.rangeAt b o cs := fun j u hj => (World.cell?_of_block (hb.block b hlt)).trans (h j u hj)
theorem sixteen_len (x : Int) : (sixteen x).length = 16 := by unfold sixteen; exact List.length_replicate
theorem size27 {c : List Value} (h : c.length = 16) : (Ybaf.prog.info? 27).map (·.size) = some c.length := by rw [h]; kernel_rfl
end Go.Proofs.YbulkantuFmt
