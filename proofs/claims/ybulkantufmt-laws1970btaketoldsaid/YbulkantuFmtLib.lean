/-
  DERIVED. SMALL LAWS for the walk of take.
-/
import Derived.Test.YbulkantuFmtTake
namespace Go.Proofs.YbulkantuFmt
open Go.RowKit Go.Extern.Stop Go.Stop Go.Extern

def zero65 : Array Value := #[.int .u64 0, .int .u8 0, .int .u8 0, .int .u8 0, .int .u8 0, .int .u8 0, .int .u8 0, .int .u8 0, .int .u8 0, .int .u8 0, .int .u8 0, .int .u8 0, .int .u8 0, .int .u8 0, .int .u8 0, .int .u8 0, .int .u8 0, .int .u64 0, .slice none 0 0]
theorem zero65_is (w : World) : (zeroValue 65).run Ybaf.prog w = .ok (.agg zero65) w := Ybaf.zeroValue65 w

theorem setCells_new (w : World) (t : TypeId) : ∀ (pre vs : List Value) (suf : List Value), (w.alloc (.cells (pre ++ suf).toArray t)).setCells w.heap.size pre.length vs = w.alloc (.cells (pre ++ vs ++ suf.drop vs.length).toArray t) ∨ suf.length < vs.length := by
  intro pre vs
  induction vs generalizing pre with
  | nil => intro suf; left; simp [World.setCells]
  | cons v vs ih =>
    intro suf
    cases suf with
    | nil => right; simp
    | cons s suf =>
      rw [World.setCells, setCell_new]
      have e : ((pre ++ s :: suf).toArray.setIfInBounds pre.length v) = ((pre ++ [v]) ++ suf).toArray := by
        apply Array.ext'
        simp
      rw [e]
      have := ih (pre ++ [v]) suf
      simp only [List.length_append, List.length_cons, List.length_nil, List.append_assoc, List.cons_append, List.nil_append] at this ⊢
      rcases this with h | h
      · left
        rw [h]
        simp
      · right
        simp
        omega

/-- A region whose every order comes to one end. -/
theorem region_then {P : Program} {id : Nat} {ops : Array Oper} {b : Bool} {Q : Exit → Act → World → Prop} {a : Act} {w : World} (A : Act) (W' : World) (h1 : (Code.region id ops b).wp P (fun e a' w' => e = .normal ∧ a' = A ∧ w' = W') a w) (h2 : Q .normal A W') : (Code.region id ops b).wp P Q a w :=
  Code.wp_mono (fun e a' w' h => by obtain ⟨rfl, rfl, rfl⟩ := h; exact h2) h1

/-- All the cells of a block that has just been laid. -/
theorem store_new (w : World) (old cs : List Value) (t : TypeId) (hl : cs.length = old.length) (h1 : ∀ v ∈ cs, v.oneCell' = true) (n : Nat) (hn : w.heap.size = n) :
    (storeCells ⟨n, 0, none⟩ cs).run Ybaf.prog (w.alloc (.cells old.toArray t)) = .ok () (w.alloc (.cells cs.toArray t)) := by
  subst hn
  have hrow := heap_alloc_new w (.cells old.toArray t)
  have := run_storeCells_cells (P := Ybaf.prog) w.heap.size 0 cs 0 (w.alloc (.cells old.toArray t)) (fun j hj => by
    rw [Nat.zero_add, cell_of_row _ w.heap.size _ _ t (0, 0) hrow]
    rw [List.getElem?_toArray, List.getElem?_eq_getElem (by rw [← hl]; simpa using hj)]
    rfl) (fun j _ => free_of_row hrow) h1
  simp only [Nat.add_zero] at this
  rw [this]
  have h := setCells_new w t [] cs old
  rcases h with h | h
  · simp only [List.nil_append, List.length_nil] at h
    rw [h, List.drop_of_length_le (by omega), List.append_nil]
  · omega


theorem sixteen_one (x : Int) : ∀ v ∈ sixteen x, v.oneCell' = true := by
  intro v hv
  rw [List.eq_of_mem_replicate hv]
  rfl
theorem head_one (s x : Int) : ∀ v ∈ headCells s x, v.oneCell' = true := by
  intro v hv
  rcases List.mem_cons.1 hv with rfl | h
  · rfl
  · exact sixteen_one x v h
theorem head_len (s x : Int) : (headCells s x).length = 17 := by
  unfold headCells sixteen
  rw [List.length_cons, List.length_replicate]
theorem slice_one {w : World} {base : Nat} {e : TypeId} {size : Nat} {v : Value} {n : Nat} {xs : List Value} (h : w.ownsRow base e size v n xs) : v.oneCell' = true := by
  rcases h.2 with ⟨rfl, _⟩ | ⟨g, cap, _, rfl, _⟩ <;> rfl

/-- Behind the look-up: the reader, the line's box (nb), the coverage's box (nb + 1). -/
structure Mid (W w : World) (nb B : Nat) (mi : Bool) (ch : Int) (d : Nat → Dev) (ls : Nat → Bool) (cv : Nat → Value) (dn : Option Nat) (mk : Int) (i : Nat) (seq stamp dig : Int) (hd : List Value) (st : Int) (v : Value) : Prop where
  rd : Rd w B mi ch d ls cv dn mk
  line : w.heap[nb]? = some (.cells (lineCells i seq stamp dig) 55 (0, 0))
  box : w.heap[nb + 1]? = some (.cells (hd ++ [.int .u64 st, v]).toArray 65 (0, 0))
  below : Below nb W w

theorem box_cells {w : World} {b : Nat} {hd : List Value} {st : Int} {v : Value} (h : w.heap[b]? = some (.cells (hd ++ [.int .u64 st, v]).toArray 65 (0, 0))) (hl : hd.length = 17) :
    w.cell? ⟨b, 17, none⟩ = some (.int .u64 st) ∧ w.cell? ⟨b, 18, none⟩ = some v ∧ w.rangeAt b 0 (hd ++ [.int .u64 st, v]) := by
  refine ⟨?_, ?_, fun j u hj => ?_⟩
  · rw [cell_of_row w b 17 _ 65 (0, 0) h, List.getElem?_toArray, List.getElem?_append_right (by omega), hl]; rfl
  · rw [cell_of_row w b 18 _ 65 (0, 0) h, List.getElem?_toArray, List.getElem?_append_right (by omega), hl]; rfl
  · rw [cell_of_row w b (0 + j) _ 65 (0, 0) h, List.getElem?_toArray, Nat.zero_add]; exact hj

theorem parse_letters (x : Int) (ev : Value) (w : World) (h0 : 0 ≤ x) (h1 : x ≤ 255) (hE : w.cell? ⟨0, 0, none⟩ = some ev) :
    Calls Ybaf.prog 11 #[.string (hx x)] w fun e w' => ∃ c16, c16 = sixteen x ∧ e = .returned (.tuple #[.agg (List.toArray c16), .bool true]) ∧ Below w.heap.size w w' :=
  (parse_any x ev w h0 h1 hE).mono fun _ _ ⟨he, hb⟩ => ⟨sixteen x, rfl, he, hb⟩

theorem nineteen (c : List Value) (hl : c.length = 19) : ∃ x0 x1 x2 x3 x4 x5 x6 x7 x8 x9 x10 x11 x12 x13 x14 x15 x16 x17 x18, c = [x0, x1, x2, x3, x4, x5, x6, x7, x8, x9, x10, x11, x12, x13, x14, x15, x16, x17, x18] := by
  match c, hl with
  | [x0, x1, x2, x3, x4, x5, x6, x7, x8, x9, x10, x11, x12, x13, x14, x15, x16, x17, x18], _ => exact ⟨x0, x1, x2, x3, x4, x5, x6, x7, x8, x9, x10, x11, x12, x13, x14, x15, x16, x17, x18, rfl⟩

theorem build62 (s : Int) (c : List Value) (hl : c.length = 16) (w : World) : (Instr.build 62 #[(0, .int .u64 s), (1, .agg c.toArray)]).run Ybaf.prog w = .ok (.agg (Value.int .u64 s :: c).toArray) w := by
  obtain ⟨a0, a1, a2, a3, a4, a5, a6, a7, a8, a9, a10, a11, a12, a13, a14, a15, rfl⟩ : ∃ a0 a1 a2 a3 a4 a5 a6 a7 a8 a9 a10 a11 a12 a13 a14 a15, c = [a0, a1, a2, a3, a4, a5, a6, a7, a8, a9, a10, a11, a12, a13, a14, a15] := by
    match c, hl with
    | [a0, a1, a2, a3, a4, a5, a6, a7, a8, a9, a10, a11, a12, a13, a14, a15], _ => exact ⟨a0, a1, a2, a3, a4, a5, a6, a7, a8, a9, a10, a11, a12, a13, a14, a15, rfl⟩
  kernel_rfl
theorem slice63 (h : List Value) (hl : h.length = 17) (w : World) : (Instr.buildSlice 63 1 #[(0, .agg h.toArray)]).run Ybaf.prog w = .ok (.slice (some ⟨w.heap.size, 0, none⟩) 1 1) (w.alloc (.cells h.toArray 62)) := by
  obtain ⟨a0, a1, a2, a3, a4, a5, a6, a7, a8, a9, a10, a11, a12, a13, a14, a15, a16, rfl⟩ : ∃ a0 a1 a2 a3 a4 a5 a6 a7 a8 a9 a10 a11 a12 a13 a14 a15 a16, h = [a0, a1, a2, a3, a4, a5, a6, a7, a8, a9, a10, a11, a12, a13, a14, a15, a16] := by
    match h, hl with
    | [a0, a1, a2, a3, a4, a5, a6, a7, a8, a9, a10, a11, a12, a13, a14, a15, a16], _ => exact ⟨a0, a1, a2, a3, a4, a5, a6, a7, a8, a9, a10, a11, a12, a13, a14, a15, a16, rfl⟩
  kernel_rfl
end Go.Proofs.YbulkantuFmt
