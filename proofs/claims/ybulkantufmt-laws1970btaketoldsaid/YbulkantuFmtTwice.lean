/-
  DERIVED. THE WALK of take: the refusals past the reader's end.
-/
import Derived.Test.YbulkantuFmtLib
namespace Go.Proofs.YbulkantuFmt
open Go.RowKit Go.Extern.Stop Go.Stop Go.Extern
set_option maxRecDepth 100000 in
set_option maxHeartbeats 400000 in
theorem take_twice_some (F : Interp) (W : World) (B : Nat) (mi : Bool) (ch : Int) (d : Nat → Dev) (ls : Nat → Bool) (cv : Nat → Value) (mk : Int) (i : Nat) (seq stamp dig : Int) (R : Rd W B mi ch d ls cv (some i) mk) (hF : F.answers W.tape) (hi : i < 3) (h1 : stamp ≠ 0) (h2 : (d i).stamp ≠ 0) :
    Calls Ybaf.prog 6 #[.pointer (some ⟨B + 3, 0, none⟩), .agg (lineCells i seq stamp dig)] W fun e w' => ∃ a, e = .returned (.iface 83 (.pointer (some a))) ∧ Below W.heap.size W w' := by
  unfold lineCells
  go_enter Ybaf.func6, Ybaf.ntmps6
  go_wp2_with fail
  generalize hW1 : W.alloc _ = W1
  have line : W1.heap[W.heap.size]? = some (.cells (lineCells i seq stamp dig) 55 (0, 0)) := by rw [← hW1]; exact heap_alloc_new W _
  have hb1 : Below W.heap.size W W1 := by rw [← hW1]; exact (Below.refl _ W).alloc (Nat.le_refl _) _
  have hs1 : W1.heap.size = W.heap.size + 1 := by rw [← hW1]; simp
  clear hW1
  have R1 := hide (R.below hb1)
  have L1 := hide line
  have HB := hide hb1
  clear hb1 line
  obtain ⟨c0, c3, c4, c16, c17, c18, c19⟩ := R1.out.cells (Below.refl _ W1)
  obtain ⟨g0, g1, g2, g13⟩ := line_cells L1.out (Below.refl _ W1)
  simp only [devName] at c3
  go_quiet (fail)
  clear c0 c3 c4 c16 c17 c18 c19 g0 g1 g2 g13
  go_wp2_with fail
  have C0 := fun w' (hb : Below (W.heap.size + 1) W1 w') => (R1.out.cells (hs1 ▸ hb)).1
  have C16 := fun w' (hb : Below (W.heap.size + 1) W1 w') => (R1.out.cells (hs1 ▸ hb)).2.2.2.1
  have G0 := fun w' (hb : Below (W.heap.size + 1) W1 w') => (line_cells L1.out (hs1 ▸ hb)).1
  have LK := fun w' (hb : Below (W.heap.size + 1) W1 w') => ((R1.out.below (hs1 ▸ hb)).covers).look hi Ybaf.underlying24 (zero65_is w')
  obtain ⟨hd, hhd⟩ : ∃ hd, headCells (hseq (d i)) (hdig (d i)) = hd := ⟨_, rfl⟩
  have l17 : hd.length = 17 := by rw [← hhd]; exact head_len _ _
  simp only [cov, hhd] at LK
  generalize hcs : hd ++ [Value.int .u64 (d i).stamp, cv i] = cs at LK
  have l19 : cs.length = 19 := by rw [← hcs, List.length_append, l17]; rfl
  have o19 : ∀ v ∈ cs, v.oneCell' = true := by
    intro v hv
    rw [← hcs, ← hhd] at hv
    rcases List.mem_append.1 hv with h | h
    · exact head_one _ _ v h
    · simp only [List.mem_cons, List.not_mem_nil, or_false] at h
      rcases h with rfl | rfl
      · rfl
      · exact slice_one (R.own i hi)
  have ST := fun (w' : World) (t : TypeId) (hn : w'.heap.size = W.heap.size + 1) => store_new w' zero65.toList cs t (by rw [l19]; rfl) o19 (W.heap.size + 1) hn
  simp only [zero65] at ST
  have HC := hide hcs
  have HH := hide hhd
  have RR := hide R
  clear hcs hhd R
  have hbd : ∀ q, Below (W.heap.size + 1) W1 (W1.drewN q) := fun q => below_drewN (Below.refl _ _) _
  have hba : ∀ q o, Below (W.heap.size + 1) W1 ((W1.drewN q).alloc o) := fun q o => (hbd q).alloc (by show _ ≤ W1.heap.size; omega) _
  apply region_then
  case h1 =>
    go_region_held3 (fun w' => Below (W.heap.size + 1) W1 w') (first | exact hbd _ | exact hba _ _ | exact (hbd _).drew) (fail)
    all_goals exact ⟨rfl, rfl, rfl⟩
  clear C0 C16 G0 LK ST hbd hba
  generalize hW2 : World.alloc _ _ = W2
  have M : Mid W W2 W.heap.size B mi ch d ls cv (some i) mk i seq stamp dig hd (d i).stamp (cv i) := by
    rw [← HC.out] at hW2
    subst hW2
    have hb : Below (W.heap.size + 1) W1 ((W1.drewN (nq + 1)).alloc (.cells (hd ++ [Value.int .u64 (d i).stamp, cv i]).toArray 65)) := (below_drewN (Below.refl _ _) _).alloc (by show _ ≤ W1.heap.size; omega) _
    refine ⟨R1.out.below (hs1 ▸ hb), (hb.block _ (by omega)).trans L1.out, ?_, HB.out.trans (hb.mono (by omega))⟩
    rw [← hs1]
    exact heap_alloc_new (W1.drewN (nq + 1)) _
  have hs2 : W2.heap.size = W.heap.size + 2 := by rw [← hW2]; show (World.alloc _ _).heap.size = _; simp; exact hs1
  have MM := hide M
  have ht2 : W2.tape = W.tape := M.below.tape
  clear hW2 M R1 L1 HB HC l19 o19 hs1
  have hst : (stamp != 0) = true := bne_iff_ne.2 h1
  have hst2 : ((d i).stamp != 0) = true := bne_iff_ne.2 h2
  obtain ⟨g0, g1, g2, g13⟩ := line_cells MM.out.line (Below.refl _ W2)
  obtain ⟨b17, b18, _⟩ := box_cells MM.out.box l17
  have hnew := fun o => heap_alloc_new W2 o
  rw [hs2] at hnew
  go_wp2_with fail
  refine (errorf_B F (nm i) (W.heap.size + 2) _ (by show F.answers W2.tape; rw [ht2]; exact hF) (by rw [cell_of_row _ (W.heap.size + 2) 0 _ 20 (0, 0) (hnew _)]; rfl)).mono ?_
  rintro e w3 ⟨a, rfl, hb3⟩
  have HB3 := hide hb3
  clear hb3
  go_wp2_with fail
  go_ret
  exact ⟨a, rfl, (MM.out.below.alloc MM.out.below.size _).trans (HB3.out.mono (by simp; omega))⟩

set_option maxRecDepth 100000 in
set_option maxHeartbeats 400000 in
theorem take_twice_none (F : Interp) (W : World) (B : Nat) (mi : Bool) (ch : Int) (d : Nat → Dev) (ls : Nat → Bool) (cv : Nat → Value) (mk : Int) (i : Nat) (seq stamp dig : Int) (R : Rd W B mi ch d ls cv none mk) (hF : F.answers W.tape) (hi : i < 3) (h1 : stamp ≠ 0) (h2 : (d i).stamp ≠ 0) :
    Calls Ybaf.prog 6 #[.pointer (some ⟨B + 3, 0, none⟩), .agg (lineCells i seq stamp dig)] W fun e w' => ∃ a, e = .returned (.iface 83 (.pointer (some a))) ∧ Below W.heap.size W w' := by
  unfold lineCells
  go_enter Ybaf.func6, Ybaf.ntmps6
  go_wp2_with fail
  generalize hW1 : W.alloc _ = W1
  have line : W1.heap[W.heap.size]? = some (.cells (lineCells i seq stamp dig) 55 (0, 0)) := by rw [← hW1]; exact heap_alloc_new W _
  have hb1 : Below W.heap.size W W1 := by rw [← hW1]; exact (Below.refl _ W).alloc (Nat.le_refl _) _
  have hs1 : W1.heap.size = W.heap.size + 1 := by rw [← hW1]; simp
  clear hW1
  have R1 := hide (R.below hb1)
  have L1 := hide line
  have HB := hide hb1
  clear hb1 line
  obtain ⟨c0, c3, c4, c16, c17, c18, c19⟩ := R1.out.cells (Below.refl _ W1)
  obtain ⟨g0, g1, g2, g13⟩ := line_cells L1.out (Below.refl _ W1)
  simp only [devName] at c3
  have hfull := nm_full i
  go_quiet (fail)
  go_wp2_with fail
  refine (end_none (B + 3) _ (by exact c3)).mono ?_
  rintro e w2 ⟨rfl, rfl⟩
  clear c0 c3 c4 c16 c17 c18 c19 g0 g1 g2 g13
  go_wp2_with fail
  have C0 := fun w' (hb : Below (W.heap.size + 1) W1 w') => (R1.out.cells (hs1 ▸ hb)).1
  have C16 := fun w' (hb : Below (W.heap.size + 1) W1 w') => (R1.out.cells (hs1 ▸ hb)).2.2.2.1
  have G0 := fun w' (hb : Below (W.heap.size + 1) W1 w') => (line_cells L1.out (hs1 ▸ hb)).1
  have LK := fun w' (hb : Below (W.heap.size + 1) W1 w') => ((R1.out.below (hs1 ▸ hb)).covers).look hi Ybaf.underlying24 (zero65_is w')
  obtain ⟨hd, hhd⟩ : ∃ hd, headCells (hseq (d i)) (hdig (d i)) = hd := ⟨_, rfl⟩
  have l17 : hd.length = 17 := by rw [← hhd]; exact head_len _ _
  simp only [cov, hhd] at LK
  generalize hcs : hd ++ [Value.int .u64 (d i).stamp, cv i] = cs at LK
  have l19 : cs.length = 19 := by rw [← hcs, List.length_append, l17]; rfl
  have o19 : ∀ v ∈ cs, v.oneCell' = true := by
    intro v hv
    rw [← hcs, ← hhd] at hv
    rcases List.mem_append.1 hv with h | h
    · exact head_one _ _ v h
    · simp only [List.mem_cons, List.not_mem_nil, or_false] at h
      rcases h with rfl | rfl
      · rfl
      · exact slice_one (R.own i hi)
  have ST := fun (w' : World) (t : TypeId) (hn : w'.heap.size = W.heap.size + 1) => store_new w' zero65.toList cs t (by rw [l19]; rfl) o19 (W.heap.size + 1) hn
  simp only [zero65] at ST
  have HC := hide hcs
  have HH := hide hhd
  have RR := hide R
  clear hcs hhd R
  have hbd : ∀ q, Below (W.heap.size + 1) W1 (W1.drewN q) := fun q => below_drewN (Below.refl _ _) _
  have hba : ∀ q o, Below (W.heap.size + 1) W1 ((W1.drewN q).alloc o) := fun q o => (hbd q).alloc (by show _ ≤ W1.heap.size; omega) _
  apply region_then
  case h1 =>
    go_region_held3 (fun w' => Below (W.heap.size + 1) W1 w') (first | exact hbd _ | exact hba _ _ | exact (hbd _).drew) (fail)
    all_goals exact ⟨rfl, rfl, rfl⟩
  clear C0 C16 G0 LK ST hbd hba
  generalize hW2 : World.alloc _ _ = W2
  have M : Mid W W2 W.heap.size B mi ch d ls cv none mk i seq stamp dig hd (d i).stamp (cv i) := by
    rw [← HC.out] at hW2
    subst hW2
    have hb : Below (W.heap.size + 1) W1 ((W1.drewN (nq + 1)).alloc (.cells (hd ++ [Value.int .u64 (d i).stamp, cv i]).toArray 65)) := (below_drewN (Below.refl _ _) _).alloc (by show _ ≤ W1.heap.size; omega) _
    refine ⟨R1.out.below (hs1 ▸ hb), (hb.block _ (by omega)).trans L1.out, ?_, HB.out.trans (hb.mono (by omega))⟩
    rw [← hs1]
    exact heap_alloc_new (W1.drewN (nq + 1)) _
  have hs2 : W2.heap.size = W.heap.size + 2 := by rw [← hW2]; show (World.alloc _ _).heap.size = _; simp; exact hs1
  have MM := hide M
  have ht2 : W2.tape = W.tape := M.below.tape
  clear hW2 M R1 L1 HB HC l19 o19 hs1
  have hst : (stamp != 0) = true := bne_iff_ne.2 h1
  have hst2 : ((d i).stamp != 0) = true := bne_iff_ne.2 h2
  obtain ⟨g0, g1, g2, g13⟩ := line_cells MM.out.line (Below.refl _ W2)
  obtain ⟨b17, b18, _⟩ := box_cells MM.out.box l17
  have hnew := fun o => heap_alloc_new W2 o
  rw [hs2] at hnew
  go_wp2_with fail
  refine (errorf_B F (nm i) (W.heap.size + 2) _ (by show F.answers W2.tape; rw [ht2]; exact hF) (by rw [cell_of_row _ (W.heap.size + 2) 0 _ 20 (0, 0) (hnew _)]; rfl)).mono ?_
  rintro e w3 ⟨a, rfl, hb3⟩
  have HB3 := hide hb3
  clear hb3
  go_wp2_with fail
  go_ret
  exact ⟨a, rfl, (MM.out.below.alloc MM.out.below.size _).trans (HB3.out.mono (by simp; omega))⟩
end Go.Proofs.YbulkantuFmt
