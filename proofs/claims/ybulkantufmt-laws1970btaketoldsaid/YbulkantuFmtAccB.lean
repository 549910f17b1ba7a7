/-
  DERIVED. THE WALK of take where it takes the line: two of its sixteen ways (written by a small script of mine out of one pattern).
-/
import Derived.Test.YbulkantuFmtMid
namespace Go.Proofs.YbulkantuFmt
open Go.RowKit Go.Extern.Stop Go.Stop Go.Extern
attribute [local go_sem ↓] hold65 holdB62 holdS63
set_option maxRecDepth 100000 in
set_option maxHeartbeats 1000000 in
theorem acc_some_mark_plain (W : World) (B : Nat) (mi : Bool) (ch : Int) (d : Nat → Dev) (ls : Nat → Bool) (cv : Nat → Value) (mk : Int) (i : Nat) (seq dig : Int) (R : Rd W B mi ch d ls cv (some i) mk) (hi : i < 3) (ev : Value) (k0 : 0 ≤ dig) (k1 : dig ≤ 255) (hE : W.cell? ⟨0, 0, none⟩ = some ev) (hB0 : 0 < B) (hB : B + 5 ≤ W.heap.size) (hp : (d i).present = true) (hmi : mi = false) (h2 : mk < seq) (hlen : (d i).marks.length ≤ 1024) :
    Calls Ybaf.prog 6 #[.pointer (some ⟨B + 3, 0, none⟩), .agg (lineCells i seq 0 dig)] W fun e w' => e = .returned .nilIface ∧ Accept W w' B mi ch d ls cv (some i) seq i { d i with present := true, marks := (d i).marks ++ [(seq, dig)] } := by
  subst hmi
  have HP : Hid ((d i).present = true) := hp
  clear hp
  unfold lineCells
  go_enter Ybaf.func6, Ybaf.ntmps6
  go_wp2_with fail
  generalize hW1 : W.alloc _ = W1
  have line : W1.heap[W.heap.size]? = some (.cells (lineCells i seq 0 dig) 55 (0, 0)) := by rw [← hW1]; exact heap_alloc_new W _
  have hb1 : Below W.heap.size W W1 := by rw [← hW1]; exact (Below.refl _ W).alloc (Nat.le_refl _) _
  have hs1 : W1.heap.size = W.heap.size + 1 := by rw [← hW1]; simp
  clear hW1
  have R1 := hide (R.below hb1)
  have L1 := hide line
  have HB := hide hb1
  clear hb1 line
  obtain ⟨c0, c3, c4, c16, c17, c18, c19⟩ := R1.out.cells (Below.refl _ W1)
  obtain ⟨g0, g1, g2, g13⟩ := line_cells L1.out (Below.refl _ W1)
  simp only [devName] at c3
  go_quiet (fail)
  clear c0 c3 c4 c16 c17 c18 c19 g0 g1 g2 g13
  go_wp2_with fail
  have C0 := fun w' (hb : Below (W.heap.size + 1) W1 w') => (R1.out.cells (hs1 ▸ hb)).1
  have C16 := fun w' (hb : Below (W.heap.size + 1) W1 w') => (R1.out.cells (hs1 ▸ hb)).2.2.2.1
  have G0 := fun w' (hb : Below (W.heap.size + 1) W1 w') => (line_cells L1.out (hs1 ▸ hb)).1
  have LK := fun w' (hb : Below (W.heap.size + 1) W1 w') => ((R1.out.below (hs1 ▸ hb)).covers).look hi Ybaf.underlying24 (zero65_is w')
  obtain ⟨hd, hhd⟩ : ∃ hd, headCells (hseq (d i)) (hdig (d i)) = hd := ⟨_, rfl⟩
  have l17 : hd.length = 17 := by rw [← hhd]; exact head_len _ _
  simp only [cov, hhd] at LK
  generalize hcs : hd ++ [Value.int .u64 (d i).stamp, cv i] = cs at LK
  have l19 : cs.length = 19 := by rw [← hcs, List.length_append, l17]; rfl
  have o19 : ∀ v ∈ cs, v.oneCell' = true := by
    intro v hv
    rw [← hcs, ← hhd] at hv
    rcases List.mem_append.1 hv with h | h
    · exact head_one _ _ v h
    · simp only [List.mem_cons, List.not_mem_nil, or_false] at h
      rcases h with rfl | rfl
      · rfl
      · exact slice_one (R.own i hi)
  have ST := fun (w' : World) (t : TypeId) (hn : w'.heap.size = W.heap.size + 1) => store_new w' zero65.toList cs t (by rw [l19]; rfl) o19 (W.heap.size + 1) hn
  simp only [zero65] at ST
  have HC := hide hcs
  have HH := hide hhd
  have RR := hide R
  clear hcs hhd R
  have hbd : ∀ q, Below (W.heap.size + 1) W1 (W1.drewN q) := fun q => below_drewN (Below.refl _ _) _
  have hba : ∀ q o, Below (W.heap.size + 1) W1 ((W1.drewN q).alloc o) := fun q o => (hbd q).alloc (by show _ ≤ W1.heap.size; omega) _
  apply region_then
  case h1 =>
    go_region_held3 (fun w' => Below (W.heap.size + 1) W1 w') (first | exact hbd _ | exact hba _ _ | exact (hbd _).drew) (fail)
    all_goals exact ⟨rfl, rfl, rfl⟩
  clear C0 C16 G0 LK ST hbd hba
  generalize hW2 : World.alloc _ _ = W2
  have N : Now W W2 W.heap.size B false ch d ls cv (some i) mk i seq 0 dig hd (d i).stamp (cv i) (d i).marks := by
    rw [← HC.out] at hW2
    subst hW2
    have hb : Below (W.heap.size + 1) W1 ((W1.drewN (nq + 1)).alloc (.cells (hd ++ [Value.int .u64 (d i).stamp, cv i]).toArray 65)) := (below_drewN (Below.refl _ _) _).alloc (by show _ ≤ W1.heap.size; omega) _
    refine Now.start RR.out hi hB (HB.out.trans (hb.mono (by omega))) ((hb.block _ (by omega)).trans L1.out) ?_
    rw [← hs1]
    exact heap_alloc_new (W1.drewN (nq + 1)) _
  have hs2 : W2.heap.size = W.heap.size + 2 := by rw [← hW2]; show (World.alloc _ _).heap.size = _; simp; exact hs1
  have NN := hide N
  clear hW2 N R1 L1 HB HC l19 o19 hs1
  obtain ⟨⟨c0, c3, c4, c16, c17, c18, c19⟩, ⟨g0, g1, g2, g13⟩, ⟨b17, b18, b0⟩⟩ := NN.out.cells l17 (Below.refl _ W2)
  simp only [devName] at c3
  simp only [marksName] at c18
  have hp := HP.out
  have hq : decide (seq ≤ mk) = false := decide_eq_false (by omega)
  go_wp2_with fail
  go_quiet (fail)
  go_wp2_with fail
  have N3h := hide (NN.out.later (below_drewN (Below.refl _ W2) nq))
  refine (parse_letters dig ev _ k0 k1 (by exact N3h.out.ev hB0 hE)).mono ?_
  rintro e w4 ⟨x16, hx16, rfl, hb4⟩
  have N4 := hide (N3h.out.later hb4)
  have HX := hide hx16
  have l16 : x16.length = 16 := by rw [hx16]; exact List.length_replicate
  have o16 : ∀ v ∈ x16, v.oneCell' = true := by rw [hx16]; exact sixteen_one dig
  have ST := fun (t : TypeId) => store_new w4 zeros.toList x16 t (by rw [l16]; rfl) o16 w4.heap.size rfl
  simp only [zeros] at ST
  clear hx16 hb4 o16
  clear c0 c3 c4 c16 c17 c18 c19 g0 g1 g2 g13 b17 b18 b0
  have AF := fun o => N4.out.cells l17 ((Below.refl _ w4).alloc (Nat.le_refl _) o)
  have Ag0 := fun o => (AF o).2.1.1
  have Ag1 := fun o => (AF o).2.1.2.1
  have Ag2 := fun o => (AF o).2.1.2.2.1
  have Ab18 := fun o => (AF o).2.2.2.1
  have Ac0 := fun o => (AF o).1.1
  have Ac18 := fun o => (AF o).1.2.2.2.2.2.1
  simp only [marksName] at Ac18
  clear AF
  obtain ⟨h17, hh17⟩ : ∃ h17, Value.int .u64 seq :: x16 = h17 := ⟨_, rfl⟩
  have l17' : h17.length = 17 := by rw [← hh17, List.length_cons, l16]
  have hhd17 : h17 = headCells seq dig := by rw [← hh17, HX.out]; rfl
  have o17 : ∀ v ∈ h17, v.oneCell' = true := by rw [hhd17]; exact head_one seq dig
  have BD : ∀ w : World, heldBuild Ybaf.prog 62 #[(0, .int .u64 seq), (1, .agg x16.toArray)] w = .ok (.agg h17.toArray) w := fun w => by
    rw [← hh17]; exact build62 seq x16 l16 w
  have SL : ∀ w : World, heldSlice Ybaf.prog 63 1 #[(0, .agg h17.toArray)] w = .ok (.slice (some ⟨w.heap.size, 0, none⟩) 1 1) (w.alloc (.cells h17.toArray 62)) := fun w => slice63 h17 l17' w
  have H17 := hide hhd17
  have u27 := Ybaf.underlying27
  have n27 : (Ybaf.prog.info? 27).map (·.size) = some x16.length := by rw [l16]; kernel_rfl
  have r27 : (w4.alloc (.cells x16.toArray 27)).rangeAt w4.heap.size 0 x16 := fun j u hj => by rw [Nat.zero_add, cell_of_row _ w4.heap.size j _ 27 (0, 0) (heap_alloc_new w4 _), List.getElem?_toArray]; exact hj
  have hb5 : Below w4.heap.size w4 ((w4.alloc (.cells x16.toArray 27)).alloc (.cells h17.toArray 62)) := ((Below.refl _ w4).alloc (Nat.le_refl _) _).alloc (by simp) _
  have N5z := hide (N4.out.later hb5)
  have hs5 : ((w4.alloc (.cells x16.toArray 27)).alloc (.cells h17.toArray 62)).heap.size = w4.heap.size + 2 := by simp
  have hcur := N5z.out.cur
  have hnew : ∀ j u, h17[j]? = some u → ((w4.alloc (.cells x16.toArray 27)).alloc (.cells h17.toArray 62)).cell? ((⟨w4.heap.size + 1, 0, none⟩ : Addr).add j) = some u := fun j u hj => by
    rw [Addr.add_lit, Nat.zero_add, cell_of_row _ (w4.heap.size + 1) j _ 62 (0, 0) (heap_alloc2_new w4 _ _), List.getElem?_toArray]
    exact hj
  have hlo5 : B + 5 ≤ w4.heap.size + 2 := by have := N4.out.above; have := N4.out.lo; omega
  obtain ⟨i0, hi0, iz0, iz1, iz2⟩ := info_parts info62
  clear hh17 hhd17 hb5
  go_wp2_with (first
    | (refine wpList_load_mid rfl 27 _ rfl w4.heap.size 0 rfl x16 _ r27 u27 rfl n27 ?_)
    | (at_builtin; refine wpList_append_own_at _ rfl _ _ 63 rfl (B + 5) 62 i0 zero62 17 24 Ybaf.underlying63 hi0 iz0 iz1 iz2 rfl (by decide) (cv i) (d i).marks.length (markCells (d i).marks) rfl hcur ⟨w4.heap.size + 1, 0, none⟩ 1 1 h17 rfl (by omega) hnew o17 (by unfold maxLen; omega) (by omega) (by rw [hs5]; exact hlo5) ?_))
  intro v' wA hown1 hgrow1 _ hat1
  obtain ⟨ao, cc, rfl⟩ := ownsRow_form hown1
  have hNg := N5z.out.grown (ms' := (d i).marks ++ [(seq, dig)]) hgrow1 (by rw [List.length_append, markCells_snoc, ← H17.out]; exact hown1) (by rw [hs5]; exact hat1) l17
  have bx := (hgrow1.block (W.heap.size + 1) (by rw [hs5]; have := N4.out.above; omega) (fun e => (N5z.out.cur_ge e.symm).2.2 rfl)).trans N5z.out.box
  have bb18 := (box_cells bx l17).2.1
  have bf18 : wA.frozen? ⟨W.heap.size + 1, 18, none⟩ = false := free_of_row bx
  have NG := hide hNg
  clear hNg bx hown1 hgrow1 hat1 hcur hnew hlo5 hs5 r27 n27 u27 SL BD ST N5z
  go_wp2_with fail
  generalize hW5 : World.setCell _ _ _ = W5
  have N5 := hide (show Now W W5 W.heap.size B false ch d ls cv (some i) mk i seq 0 dig hd (d i).stamp (.slice ao ((d i).marks.length + 1) cc) ((d i).marks ++ [(seq, dig)]) by rw [← hW5]; exact NG.out)
  have hn4 := N4.out.above
  clear hW5 NG N4 N3h NN bb18 bf18 Ag0 Ag1 Ag2 Ab18 Ac0 Ac18
  obtain ⟨⟨c0, c3, c4, c16, c17, c18, c19⟩, ⟨g0, g1, g2, g13⟩, ⟨b17, b18, b0⟩⟩ := N5.out.cells l17 (Below.refl _ W5)
  have f3 : W5.frozen? ⟨B + 3, 3, none⟩ = false := free_of_row N5.out.cr
  have f4 : W5.frozen? ⟨B + 3, 4, none⟩ = false := free_of_row N5.out.cr
  have hlo := N5.out.lo
  have sA : ∀ q, (W5.drewN q).cell? ⟨W.heap.size, 0, none⟩ = some (.string (nm i)) ∧ (W5.drewN q).cell? ⟨W.heap.size, 1, none⟩ = some (.int .u64 seq) := fun q => ⟨g0, g1⟩
  have sB : ∀ q u, ((W5.drewN q).setCell ⟨B + 3, 3, none⟩ u).cell? ⟨W.heap.size, 0, none⟩ = some (.string (nm i)) ∧ ((W5.drewN q).setCell ⟨B + 3, 3, none⟩ u).cell? ⟨W.heap.size, 1, none⟩ = some (.int .u64 seq) := fun q u => ⟨(cell_other _ _ _ _ _ _ (by omega)).trans g0, (cell_other _ _ _ _ _ _ (by omega)).trans g1⟩
  have sC : ∀ q u u', (((W5.drewN q).setCell ⟨B + 3, 3, none⟩ u).setCell ⟨B + 3, 4, none⟩ u').cell? ⟨W.heap.size, 0, none⟩ = some (.string (nm i)) ∧ (((W5.drewN q).setCell ⟨B + 3, 3, none⟩ u).setCell ⟨B + 3, 4, none⟩ u').cell? ⟨W.heap.size, 1, none⟩ = some (.int .u64 seq) := fun q u u' => ⟨(cell_other _ _ _ _ _ _ (by omega)).trans (sB q u).1, (cell_other _ _ _ _ _ _ (by omega)).trans (sB q u).2⟩
  apply region_then
  case h1 =>
    go_region_held3 (fun w' => w'.cell? ⟨W.heap.size, 0, none⟩ = some (.string (nm i)) ∧ w'.cell? ⟨W.heap.size, 1, none⟩ = some (.int .u64 seq)) (first | exact sA 1 | exact sB 1 _ | exact sC 1 _ _) (fail)
    all_goals exact ⟨rfl, rfl, rfl⟩
  clear sA sB sC f3 f4
  clear c0 c3 c4 c16 c17 c18 c19 g0 g1 g2 g13 b17 b18 b0
  generalize hW6 : World.setCell _ _ _ = W6
  have N6 := hide (show Now W W6 W.heap.size B false ch d ls cv (some i) seq i seq 0 dig hd (d i).stamp (.slice ao ((d i).marks.length + 1) cc) ((d i).marks ++ [(seq, dig)]) by rw [← hW6]; exact N5.out.marked 0)
  clear hW6 hn4 N5
  go_wp2_with fail
  obtain ⟨W7, hrun7, AC, hk7⟩ := (N6.out.later (below_drewN (Below.refl _ W6) 2)).done { d i with present := true, marks := (d i).marks ++ [(seq, dig)] } (by rw [← HH.out]; rfl) rfl rfl
  obtain ⟨⟨c0, c3, c4, c16, c17, c18, c19⟩, ⟨g0, g1, g2, g13⟩, ⟨b17, b18, b0⟩⟩ := N6.out.cells l17 (Below.refl _ W6)
  have l65 : (hd ++ [Value.int .u64 (d i).stamp, (.slice ao ((d i).marks.length + 1) cc)]).length = 19 := by rw [List.length_append, l17]; rfl
  have hlo := N6.out.lo
  have hab := N6.out.above
  generalize hd ++ [Value.int .u64 (d i).stamp, (.slice ao ((d i).marks.length + 1) cc)] = cs at hrun7 b0 l65
  have hrun8 : (Instr.mapUpdate 24 (.map (some B)) (.string (nm i)) (.agg cs.toArray)).run Ybaf.prog W6.drew.drew = .ok () W7 := hrun7
  have sA : W6.drew.drew.cell? ⟨B + 3, 0, none⟩ = some (.pointer (some ⟨B + 2, 0, none⟩)) ∧ W6.drew.drew.cell? ⟨B + 2, 16, none⟩ = some (.map (some B)) ∧ W6.drew.drew.cell? ⟨W.heap.size, 0, none⟩ = some (.string (nm i)) ∧ heldLoad Ybaf.prog 65 (.pointer (some ⟨W.heap.size + 1, 0, none⟩)) W6.drew.drew = .ok (.agg (List.toArray cs)) W6.drew.drew := ⟨c0, c16, g0, load65_at _ _ cs b0 l65⟩
  have hk8 : ∀ q, q < W6.heap.size → q ≠ B → W7.heap[q]? = W6.heap[q]? := hk7
  have hkx : ∀ j, W7.cell? ⟨W.heap.size + 1, j, none⟩ = W6.cell? ⟨W.heap.size + 1, j, none⟩ := cell_of_block (hk8 _ (by omega) (by omega))
  have sB : W7.cell? ⟨B + 3, 0, none⟩ = some (.pointer (some ⟨B + 2, 0, none⟩)) ∧ W7.cell? ⟨B + 2, 16, none⟩ = some (.map (some B)) ∧ W7.cell? ⟨W.heap.size, 0, none⟩ = some (.string (nm i)) ∧ heldLoad Ybaf.prog 65 (.pointer (some ⟨W.heap.size + 1, 0, none⟩)) W7 = .ok (.agg (List.toArray cs)) W7 := ⟨(cell_of_block (hk8 _ (by omega) (by omega)) _).trans c0, (cell_of_block (hk8 _ (by omega) (by omega)) _).trans c16, (cell_of_block (hk8 _ (by omega) (by omega)) _).trans g0, load65_at _ _ cs (fun j u hj => (hkx _).trans (b0 j u hj)) l65⟩
  have ACh := hide AC
  clear AC hk7 hk8 hkx l65 b0 c0 c16 g0 c3 c4 c17 c18 c19 g1 g2 g13 b17 b18
  apply region_then
  case h1 =>
    go_region_held3 (fun w' => w'.cell? ⟨B + 3, 0, none⟩ = some (.pointer (some ⟨B + 2, 0, none⟩)) ∧ w'.cell? ⟨B + 2, 16, none⟩ = some (.map (some B)) ∧ w'.cell? ⟨W.heap.size, 0, none⟩ = some (.string (nm i)) ∧ heldLoad Ybaf.prog 65 (.pointer (some ⟨W.heap.size + 1, 0, none⟩)) w' = .ok (.agg (List.toArray cs)) w') (first | exact sA | exact sB) (fail)
    all_goals exact ⟨rfl, rfl, rfl⟩
  clear hrun7 hrun8 sA sB
  go_wp2_with fail
  go_ret
  exact ⟨rfl, ACh.out⟩

set_option maxRecDepth 100000 in
set_option maxHeartbeats 1000000 in
theorem acc_some_mark_first (W : World) (B : Nat) (mi : Bool) (ch : Int) (d : Nat → Dev) (ls : Nat → Bool) (cv : Nat → Value) (mk : Int) (i : Nat) (seq dig : Int) (R : Rd W B mi ch d ls cv (some i) mk) (hi : i < 3) (ev : Value) (k0 : 0 ≤ dig) (k1 : dig ≤ 255) (hE : W.cell? ⟨0, 0, none⟩ = some ev) (hB0 : 0 < B) (hB : B + 5 ≤ W.heap.size) (hp : (d i).present = false) (hmi : mi = false) (h2 : mk < seq) (hlen : (d i).marks.length ≤ 1024) :
    Calls Ybaf.prog 6 #[.pointer (some ⟨B + 3, 0, none⟩), .agg (lineCells i seq 0 dig)] W fun e w' => e = .returned .nilIface ∧ Accept W w' B mi ch d ls cv (some i) seq i { d i with present := true, marks := (d i).marks ++ [(seq, dig)] } := by
  subst hmi
  have HP : Hid ((d i).present = false) := hp
  clear hp
  unfold lineCells
  go_enter Ybaf.func6, Ybaf.ntmps6
  go_wp2_with fail
  generalize hW1 : W.alloc _ = W1
  have line : W1.heap[W.heap.size]? = some (.cells (lineCells i seq 0 dig) 55 (0, 0)) := by rw [← hW1]; exact heap_alloc_new W _
  have hb1 : Below W.heap.size W W1 := by rw [← hW1]; exact (Below.refl _ W).alloc (Nat.le_refl _) _
  have hs1 : W1.heap.size = W.heap.size + 1 := by rw [← hW1]; simp
  clear hW1
  have R1 := hide (R.below hb1)
  have L1 := hide line
  have HB := hide hb1
  clear hb1 line
  obtain ⟨c0, c3, c4, c16, c17, c18, c19⟩ := R1.out.cells (Below.refl _ W1)
  obtain ⟨g0, g1, g2, g13⟩ := line_cells L1.out (Below.refl _ W1)
  simp only [devName] at c3
  go_quiet (fail)
  clear c0 c3 c4 c16 c17 c18 c19 g0 g1 g2 g13
  go_wp2_with fail
  have C0 := fun w' (hb : Below (W.heap.size + 1) W1 w') => (R1.out.cells (hs1 ▸ hb)).1
  have C16 := fun w' (hb : Below (W.heap.size + 1) W1 w') => (R1.out.cells (hs1 ▸ hb)).2.2.2.1
  have G0 := fun w' (hb : Below (W.heap.size + 1) W1 w') => (line_cells L1.out (hs1 ▸ hb)).1
  have LK := fun w' (hb : Below (W.heap.size + 1) W1 w') => ((R1.out.below (hs1 ▸ hb)).covers).look hi Ybaf.underlying24 (zero65_is w')
  obtain ⟨hd, hhd⟩ : ∃ hd, headCells (hseq (d i)) (hdig (d i)) = hd := ⟨_, rfl⟩
  have l17 : hd.length = 17 := by rw [← hhd]; exact head_len _ _
  simp only [cov, hhd] at LK
  generalize hcs : hd ++ [Value.int .u64 (d i).stamp, cv i] = cs at LK
  have l19 : cs.length = 19 := by rw [← hcs, List.length_append, l17]; rfl
  have o19 : ∀ v ∈ cs, v.oneCell' = true := by
    intro v hv
    rw [← hcs, ← hhd] at hv
    rcases List.mem_append.1 hv with h | h
    · exact head_one _ _ v h
    · simp only [List.mem_cons, List.not_mem_nil, or_false] at h
      rcases h with rfl | rfl
      · rfl
      · exact slice_one (R.own i hi)
  have ST := fun (w' : World) (t : TypeId) (hn : w'.heap.size = W.heap.size + 1) => store_new w' zero65.toList cs t (by rw [l19]; rfl) o19 (W.heap.size + 1) hn
  simp only [zero65] at ST
  have HC := hide hcs
  have HH := hide hhd
  have RR := hide R
  clear hcs hhd R
  have hbd : ∀ q, Below (W.heap.size + 1) W1 (W1.drewN q) := fun q => below_drewN (Below.refl _ _) _
  have hba : ∀ q o, Below (W.heap.size + 1) W1 ((W1.drewN q).alloc o) := fun q o => (hbd q).alloc (by show _ ≤ W1.heap.size; omega) _
  apply region_then
  case h1 =>
    go_region_held3 (fun w' => Below (W.heap.size + 1) W1 w') (first | exact hbd _ | exact hba _ _ | exact (hbd _).drew) (fail)
    all_goals exact ⟨rfl, rfl, rfl⟩
  clear C0 C16 G0 LK ST hbd hba
  generalize hW2 : World.alloc _ _ = W2
  have N : Now W W2 W.heap.size B false ch d ls cv (some i) mk i seq 0 dig hd (d i).stamp (cv i) (d i).marks := by
    rw [← HC.out] at hW2
    subst hW2
    have hb : Below (W.heap.size + 1) W1 ((W1.drewN (nq + 1)).alloc (.cells (hd ++ [Value.int .u64 (d i).stamp, cv i]).toArray 65)) := (below_drewN (Below.refl _ _) _).alloc (by show _ ≤ W1.heap.size; omega) _
    refine Now.start RR.out hi hB (HB.out.trans (hb.mono (by omega))) ((hb.block _ (by omega)).trans L1.out) ?_
    rw [← hs1]
    exact heap_alloc_new (W1.drewN (nq + 1)) _
  have hs2 : W2.heap.size = W.heap.size + 2 := by rw [← hW2]; show (World.alloc _ _).heap.size = _; simp; exact hs1
  have NN := hide N
  clear hW2 N R1 L1 HB HC l19 o19 hs1
  obtain ⟨⟨c0, c3, c4, c16, c17, c18, c19⟩, ⟨g0, g1, g2, g13⟩, ⟨b17, b18, b0⟩⟩ := NN.out.cells l17 (Below.refl _ W2)
  simp only [devName] at c3
  simp only [marksName] at c18
  have hp := HP.out
  have hq : decide (seq ≤ mk) = false := decide_eq_false (by omega)
  go_wp2_with fail
  go_quiet (fail)
  go_wp2_with fail
  have N3h := hide (NN.out.later (below_drewN (Below.refl _ W2) nq))
  refine (parse_letters dig ev _ k0 k1 (by exact N3h.out.ev hB0 hE)).mono ?_
  rintro e w4 ⟨x16, hx16, rfl, hb4⟩
  have N4 := hide (N3h.out.later hb4)
  have HX := hide hx16
  have l16 : x16.length = 16 := by rw [hx16]; exact List.length_replicate
  have o16 : ∀ v ∈ x16, v.oneCell' = true := by rw [hx16]; exact sixteen_one dig
  have ST := fun (t : TypeId) => store_new w4 zeros.toList x16 t (by rw [l16]; rfl) o16 w4.heap.size rfl
  simp only [zeros] at ST
  clear hx16 hb4 o16
  clear c0 c3 c4 c16 c17 c18 c19 g0 g1 g2 g13 b17 b18 b0
  have AF := fun o => N4.out.cells l17 ((Below.refl _ w4).alloc (Nat.le_refl _) o)
  have Ag0 := fun o => (AF o).2.1.1
  have Ag1 := fun o => (AF o).2.1.2.1
  have Ag2 := fun o => (AF o).2.1.2.2.1
  have Ab18 := fun o => (AF o).2.2.2.1
  have Ac0 := fun o => (AF o).1.1
  have Ac18 := fun o => (AF o).1.2.2.2.2.2.1
  simp only [marksName] at Ac18
  clear AF
  obtain ⟨h17, hh17⟩ : ∃ h17, Value.int .u64 seq :: x16 = h17 := ⟨_, rfl⟩
  have l17' : h17.length = 17 := by rw [← hh17, List.length_cons, l16]
  have hhd17 : h17 = headCells seq dig := by rw [← hh17, HX.out]; rfl
  have o17 : ∀ v ∈ h17, v.oneCell' = true := by rw [hhd17]; exact head_one seq dig
  have BD : ∀ w : World, heldBuild Ybaf.prog 62 #[(0, .int .u64 seq), (1, .agg x16.toArray)] w = .ok (.agg h17.toArray) w := fun w => by
    rw [← hh17]; exact build62 seq x16 l16 w
  have SL : ∀ w : World, heldSlice Ybaf.prog 63 1 #[(0, .agg h17.toArray)] w = .ok (.slice (some ⟨w.heap.size, 0, none⟩) 1 1) (w.alloc (.cells h17.toArray 62)) := fun w => slice63 h17 l17' w
  have H17 := hide hhd17
  have u27 := Ybaf.underlying27
  have n27 : (Ybaf.prog.info? 27).map (·.size) = some x16.length := by rw [l16]; kernel_rfl
  have r27 : (w4.alloc (.cells x16.toArray 27)).rangeAt w4.heap.size 0 x16 := fun j u hj => by rw [Nat.zero_add, cell_of_row _ w4.heap.size j _ 27 (0, 0) (heap_alloc_new w4 _), List.getElem?_toArray]; exact hj
  have hb5 : Below w4.heap.size w4 ((w4.alloc (.cells x16.toArray 27)).alloc (.cells h17.toArray 62)) := ((Below.refl _ w4).alloc (Nat.le_refl _) _).alloc (by simp) _
  have N5z := hide (N4.out.later hb5)
  have hs5 : ((w4.alloc (.cells x16.toArray 27)).alloc (.cells h17.toArray 62)).heap.size = w4.heap.size + 2 := by simp
  have hcur := N5z.out.cur
  have hnew : ∀ j u, h17[j]? = some u → ((w4.alloc (.cells x16.toArray 27)).alloc (.cells h17.toArray 62)).cell? ((⟨w4.heap.size + 1, 0, none⟩ : Addr).add j) = some u := fun j u hj => by
    rw [Addr.add_lit, Nat.zero_add, cell_of_row _ (w4.heap.size + 1) j _ 62 (0, 0) (heap_alloc2_new w4 _ _), List.getElem?_toArray]
    exact hj
  have hlo5 : B + 5 ≤ w4.heap.size + 2 := by have := N4.out.above; have := N4.out.lo; omega
  obtain ⟨i0, hi0, iz0, iz1, iz2⟩ := info_parts info62
  clear hh17 hhd17 hb5
  go_wp2_with (first
    | (refine wpList_load_mid rfl 27 _ rfl w4.heap.size 0 rfl x16 _ r27 u27 rfl n27 ?_)
    | (at_builtin; refine wpList_append_own_at _ rfl _ _ 63 rfl (B + 5) 62 i0 zero62 17 24 Ybaf.underlying63 hi0 iz0 iz1 iz2 rfl (by decide) (cv i) (d i).marks.length (markCells (d i).marks) rfl hcur ⟨w4.heap.size + 1, 0, none⟩ 1 1 h17 rfl (by omega) hnew o17 (by unfold maxLen; omega) (by omega) (by rw [hs5]; exact hlo5) ?_))
  intro v' wA hown1 hgrow1 _ hat1
  obtain ⟨ao, cc, rfl⟩ := ownsRow_form hown1
  have hNg := N5z.out.grown (ms' := (d i).marks ++ [(seq, dig)]) hgrow1 (by rw [List.length_append, markCells_snoc, ← H17.out]; exact hown1) (by rw [hs5]; exact hat1) l17
  have bx := (hgrow1.block (W.heap.size + 1) (by rw [hs5]; have := N4.out.above; omega) (fun e => (N5z.out.cur_ge e.symm).2.2 rfl)).trans N5z.out.box
  have bb18 := (box_cells bx l17).2.1
  have bf18 : wA.frozen? ⟨W.heap.size + 1, 18, none⟩ = false := free_of_row bx
  have NG := hide hNg
  clear hNg bx hown1 hgrow1 hat1 hcur hnew hlo5 hs5 r27 n27 u27 SL BD ST N5z
  go_wp2_with fail
  generalize hW5 : World.setCell _ _ _ = W5
  have N5 := hide (show Now W W5 W.heap.size B false ch d ls cv (some i) mk i seq 0 dig hd (d i).stamp (.slice ao ((d i).marks.length + 1) cc) ((d i).marks ++ [(seq, dig)]) by rw [← hW5]; exact NG.out)
  have hn4 := N4.out.above
  clear hW5 NG N4 N3h NN bb18 bf18 Ag0 Ag1 Ag2 Ab18 Ac0 Ac18
  obtain ⟨⟨c0, c3, c4, c16, c17, c18, c19⟩, ⟨g0, g1, g2, g13⟩, ⟨b17, b18, b0⟩⟩ := N5.out.cells l17 (Below.refl _ W5)
  have f3 : W5.frozen? ⟨B + 3, 3, none⟩ = false := free_of_row N5.out.cr
  have f4 : W5.frozen? ⟨B + 3, 4, none⟩ = false := free_of_row N5.out.cr
  have hlo := N5.out.lo
  have sA : ∀ q, (W5.drewN q).cell? ⟨W.heap.size, 0, none⟩ = some (.string (nm i)) ∧ (W5.drewN q).cell? ⟨W.heap.size, 1, none⟩ = some (.int .u64 seq) := fun q => ⟨g0, g1⟩
  have sB : ∀ q u, ((W5.drewN q).setCell ⟨B + 3, 3, none⟩ u).cell? ⟨W.heap.size, 0, none⟩ = some (.string (nm i)) ∧ ((W5.drewN q).setCell ⟨B + 3, 3, none⟩ u).cell? ⟨W.heap.size, 1, none⟩ = some (.int .u64 seq) := fun q u => ⟨(cell_other _ _ _ _ _ _ (by omega)).trans g0, (cell_other _ _ _ _ _ _ (by omega)).trans g1⟩
  have sC : ∀ q u u', (((W5.drewN q).setCell ⟨B + 3, 3, none⟩ u).setCell ⟨B + 3, 4, none⟩ u').cell? ⟨W.heap.size, 0, none⟩ = some (.string (nm i)) ∧ (((W5.drewN q).setCell ⟨B + 3, 3, none⟩ u).setCell ⟨B + 3, 4, none⟩ u').cell? ⟨W.heap.size, 1, none⟩ = some (.int .u64 seq) := fun q u u' => ⟨(cell_other _ _ _ _ _ _ (by omega)).trans (sB q u).1, (cell_other _ _ _ _ _ _ (by omega)).trans (sB q u).2⟩
  apply region_then
  case h1 =>
    go_region_held3 (fun w' => w'.cell? ⟨W.heap.size, 0, none⟩ = some (.string (nm i)) ∧ w'.cell? ⟨W.heap.size, 1, none⟩ = some (.int .u64 seq)) (first | exact sA 1 | exact sB 1 _ | exact sC 1 _ _) (fail)
    all_goals exact ⟨rfl, rfl, rfl⟩
  clear sA sB sC f3 f4
  clear c0 c3 c4 c16 c17 c18 c19 g0 g1 g2 g13 b17 b18 b0
  generalize hW6 : World.setCell _ _ _ = W6
  have N6 := hide (show Now W W6 W.heap.size B false ch d ls cv (some i) seq i seq 0 dig hd (d i).stamp (.slice ao ((d i).marks.length + 1) cc) ((d i).marks ++ [(seq, dig)]) by rw [← hW6]; exact N5.out.marked 0)
  clear hW6 hn4 N5
  go_wp2_with fail
  obtain ⟨W7, hrun7, AC, hk7⟩ := (N6.out.later (below_drewN (Below.refl _ W6) 2)).done { d i with present := true, marks := (d i).marks ++ [(seq, dig)] } (by rw [← HH.out]; rfl) rfl rfl
  obtain ⟨⟨c0, c3, c4, c16, c17, c18, c19⟩, ⟨g0, g1, g2, g13⟩, ⟨b17, b18, b0⟩⟩ := N6.out.cells l17 (Below.refl _ W6)
  have l65 : (hd ++ [Value.int .u64 (d i).stamp, (.slice ao ((d i).marks.length + 1) cc)]).length = 19 := by rw [List.length_append, l17]; rfl
  have hlo := N6.out.lo
  have hab := N6.out.above
  generalize hd ++ [Value.int .u64 (d i).stamp, (.slice ao ((d i).marks.length + 1) cc)] = cs at hrun7 b0 l65
  have hrun8 : (Instr.mapUpdate 24 (.map (some B)) (.string (nm i)) (.agg cs.toArray)).run Ybaf.prog W6.drew.drew = .ok () W7 := hrun7
  have sA : W6.drew.drew.cell? ⟨B + 3, 0, none⟩ = some (.pointer (some ⟨B + 2, 0, none⟩)) ∧ W6.drew.drew.cell? ⟨B + 2, 16, none⟩ = some (.map (some B)) ∧ W6.drew.drew.cell? ⟨W.heap.size, 0, none⟩ = some (.string (nm i)) ∧ heldLoad Ybaf.prog 65 (.pointer (some ⟨W.heap.size + 1, 0, none⟩)) W6.drew.drew = .ok (.agg (List.toArray cs)) W6.drew.drew := ⟨c0, c16, g0, load65_at _ _ cs b0 l65⟩
  have hk8 : ∀ q, q < W6.heap.size → q ≠ B → W7.heap[q]? = W6.heap[q]? := hk7
  have hkx : ∀ j, W7.cell? ⟨W.heap.size + 1, j, none⟩ = W6.cell? ⟨W.heap.size + 1, j, none⟩ := cell_of_block (hk8 _ (by omega) (by omega))
  have sB : W7.cell? ⟨B + 3, 0, none⟩ = some (.pointer (some ⟨B + 2, 0, none⟩)) ∧ W7.cell? ⟨B + 2, 16, none⟩ = some (.map (some B)) ∧ W7.cell? ⟨W.heap.size, 0, none⟩ = some (.string (nm i)) ∧ heldLoad Ybaf.prog 65 (.pointer (some ⟨W.heap.size + 1, 0, none⟩)) W7 = .ok (.agg (List.toArray cs)) W7 := ⟨(cell_of_block (hk8 _ (by omega) (by omega)) _).trans c0, (cell_of_block (hk8 _ (by omega) (by omega)) _).trans c16, (cell_of_block (hk8 _ (by omega) (by omega)) _).trans g0, load65_at _ _ cs (fun j u hj => (hkx _).trans (b0 j u hj)) l65⟩
  have ACh := hide AC
  clear AC hk7 hk8 hkx l65 b0 c0 c16 g0 c3 c4 c17 c18 c19 g1 g2 g13 b17 b18
  apply region_then
  case h1 =>
    go_region_held3 (fun w' => w'.cell? ⟨B + 3, 0, none⟩ = some (.pointer (some ⟨B + 2, 0, none⟩)) ∧ w'.cell? ⟨B + 2, 16, none⟩ = some (.map (some B)) ∧ w'.cell? ⟨W.heap.size, 0, none⟩ = some (.string (nm i)) ∧ heldLoad Ybaf.prog 65 (.pointer (some ⟨W.heap.size + 1, 0, none⟩)) w' = .ok (.agg (List.toArray cs)) w') (first | exact sA | exact sB) (fail)
    all_goals exact ⟨rfl, rfl, rfl⟩
  clear hrun7 hrun8 sA sB
  go_wp2_with fail
  go_ret
  exact ⟨rfl, ACh.out⟩
end Go.Proofs.YbulkantuFmt
