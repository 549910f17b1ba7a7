/-
  DERIVED. THE WALK of take where it takes the line: two of its sixteen ways (written by a small script of mine out of one pattern).
-/
import Derived.Test.YbulkantuFmtMid
namespace Go.Proofs.YbulkantuFmt
open Go.RowKit Go.Extern.Stop Go.Stop Go.Extern
attribute [local go_sem ↓] hold65 holdB62 holdS63
set_option maxRecDepth 100000 in
set_option maxHeartbeats 1000000 in
theorem acc_some_cover_kept (W : World) (B : Nat) (mi : Bool) (ch : Int) (d : Nat → Dev) (ls : Nat → Bool) (cv : Nat → Value) (mk : Int) (i : Nat) (seq stamp dig : Int) (R : Rd W B mi ch d ls cv (some i) mk) (hi : i < 3) (ev : Value) (k0 : 0 ≤ dig) (k1 : dig ≤ 255) (hE : W.cell? ⟨0, 0, none⟩ = some ev) (hB0 : 0 < B) (hB : B + 5 ≤ W.heap.size) (hp : (d i).present = true) (hmi : mi = true) (h2 : mk < seq) (hz0 : stamp ≠ 0) (hz : (d i).stamp = 0) :
    Calls Ybaf.prog 6 #[.pointer (some ⟨B + 3, 0, none⟩), .agg (lineCells i seq stamp dig)] W fun e w' => e = .returned .nilIface ∧ Accept W w' B mi ch d ls cv none mk i { present := true, stamp := stamp, seq := seq, dig := dig, marks := (d i).marks } := by
  subst hmi
  have HP : Hid ((d i).present = true) := hp
  clear hp
  unfold lineCells
  go_enter Ybaf.func6, Ybaf.ntmps6
  go_wp2_with fail
  generalize hW1 : W.alloc _ = W1
  have line : W1.heap[W.heap.size]? = some (.cells (lineCells i seq stamp dig) 55 (0, 0)) := by rw [← hW1]; exact heap_alloc_new W _
  have hb1 : Below W.heap.size W W1 := by rw [← hW1]; exact (Below.refl _ W).alloc (Nat.le_refl _) _
  have hs1 : W1.heap.size = W.heap.size + 1 := by rw [← hW1]; simp
  clear hW1
  have R1 := hide (R.below hb1)
  have L1 := hide line
  have HB := hide hb1
  clear hb1 line
  obtain ⟨c0, c3, c4, c16, c17, c18, c19⟩ := R1.out.cells (Below.refl _ W1)
  obtain ⟨g0, g1, g2, g13⟩ := line_cells L1.out (Below.refl _ W1)
  simp only [devName] at c3
  go_quiet (fail)
  clear c0 c3 c4 c16 c17 c18 c19 g0 g1 g2 g13
  go_wp2_with fail
  have C0 := fun w' (hb : Below (W.heap.size + 1) W1 w') => (R1.out.cells (hs1 ▸ hb)).1
  have C16 := fun w' (hb : Below (W.heap.size + 1) W1 w') => (R1.out.cells (hs1 ▸ hb)).2.2.2.1
  have G0 := fun w' (hb : Below (W.heap.size + 1) W1 w') => (line_cells L1.out (hs1 ▸ hb)).1
  have LK := fun w' (hb : Below (W.heap.size + 1) W1 w') => ((R1.out.below (hs1 ▸ hb)).covers).look hi Ybaf.underlying24 (zero65_is w')
  obtain ⟨hd, hhd⟩ : ∃ hd, headCells (hseq (d i)) (hdig (d i)) = hd := ⟨_, rfl⟩
  have l17 : hd.length = 17 := by rw [← hhd]; exact head_len _ _
  simp only [cov, hhd] at LK
  generalize hcs : hd ++ [Value.int .u64 (d i).stamp, cv i] = cs at LK
  have l19 : cs.length = 19 := by rw [← hcs, List.length_append, l17]; rfl
  have o19 : ∀ v ∈ cs, v.oneCell' = true := by
    intro v hv
    rw [← hcs, ← hhd] at hv
    rcases List.mem_append.1 hv with h | h
    · exact head_one _ _ v h
    · simp only [List.mem_cons, List.not_mem_nil, or_false] at h
      rcases h with rfl | rfl
      · rfl
      · exact slice_one (R.own i hi)
  have ST := fun (w' : World) (t : TypeId) (hn : w'.heap.size = W.heap.size + 1) => store_new w' zero65.toList cs t (by rw [l19]; rfl) o19 (W.heap.size + 1) hn
  simp only [zero65] at ST
  have HC := hide hcs
  have HH := hide hhd
  have RR := hide R
  clear hcs hhd R
  have hbd : ∀ q, Below (W.heap.size + 1) W1 (W1.drewN q) := fun q => below_drewN (Below.refl _ _) _
  have hba : ∀ q o, Below (W.heap.size + 1) W1 ((W1.drewN q).alloc o) := fun q o => (hbd q).alloc (by show _ ≤ W1.heap.size; omega) _
  apply region_then
  case h1 =>
    go_region_held3 (fun w' => Below (W.heap.size + 1) W1 w') (first | exact hbd _ | exact hba _ _ | exact (hbd _).drew) (fail)
    all_goals exact ⟨rfl, rfl, rfl⟩
  clear C0 C16 G0 LK ST hbd hba
  generalize hW2 : World.alloc _ _ = W2
  have N : Now W W2 W.heap.size B true ch d ls cv (some i) mk i seq stamp dig hd (d i).stamp (cv i) (d i).marks := by
    rw [← HC.out] at hW2
    subst hW2
    have hb : Below (W.heap.size + 1) W1 ((W1.drewN (nq + 1)).alloc (.cells (hd ++ [Value.int .u64 (d i).stamp, cv i]).toArray 65)) := (below_drewN (Below.refl _ _) _).alloc (by show _ ≤ W1.heap.size; omega) _
    refine Now.start RR.out hi hB (HB.out.trans (hb.mono (by omega))) ((hb.block _ (by omega)).trans L1.out) ?_
    rw [← hs1]
    exact heap_alloc_new (W1.drewN (nq + 1)) _
  have hs2 : W2.heap.size = W.heap.size + 2 := by rw [← hW2]; show (World.alloc _ _).heap.size = _; simp; exact hs1
  have NN := hide N
  clear hW2 N R1 L1 HB HC l19 o19 hs1
  obtain ⟨⟨c0, c3, c4, c16, c17, c18, c19⟩, ⟨g0, g1, g2, g13⟩, ⟨b17, b18, b0⟩⟩ := NN.out.cells l17 (Below.refl _ W2)
  simp only [devName] at c3
  simp only [marksName] at c18
  have hp := HP.out
  have hq : decide (seq ≤ mk) = false := decide_eq_false (by omega)
  have hst : (stamp != 0) = true := bne_iff_ne.2 hz0
  have hst2 : (stamp == 0) = false := by simpa using hz0
  rw [hz] at b17
  go_wp2_with fail
  go_quiet (fail)
  go_wp2_with fail
  have N3h := hide (NN.out.later (below_drewN (Below.refl _ W2) nq))
  refine (parse_letters dig ev _ k0 k1 (by exact N3h.out.ev hB0 hE)).mono ?_
  rintro e w4 ⟨x16, hx16, rfl, hb4⟩
  have N4 := hide (N3h.out.later hb4)
  have HX := hide hx16
  have l16 : x16.length = 16 := by rw [hx16]; exact List.length_replicate
  have o16 : ∀ v ∈ x16, v.oneCell' = true := by rw [hx16]; exact sixteen_one dig
  have ST := fun (t : TypeId) => store_new w4 zeros.toList x16 t (by rw [l16]; rfl) o16 w4.heap.size rfl
  simp only [zeros] at ST
  clear hx16 hb4 o16
  clear c0 c3 c4 c16 c17 c18 c19 g0 g1 g2 g13 b17 b18 b0
  have AF := fun o => N4.out.cells l17 ((Below.refl _ w4).alloc (Nat.le_refl _) o)
  have Ag0 := fun o => (AF o).2.1.1
  have Ag1 := fun o => (AF o).2.1.2.1
  have Ag2 := fun o => (AF o).2.1.2.2.1
  have Ab18 := fun o => (AF o).2.2.2.1
  have Ac0 := fun o => (AF o).1.1
  have Ac18 := fun o => (AF o).1.2.2.2.2.2.1
  simp only [marksName] at Ac18
  clear AF
  go_wp2_with fail
  generalize hW5 : w4.alloc _ = W5
  have hb5 : Below w4.heap.size w4 W5 := by rw [← hW5]; exact (Below.refl _ w4).alloc (Nat.le_refl _) _
  have N5 := hide (N4.out.later hb5)
  have D5 := hide (show W5.heap[w4.heap.size]? = some (.cells x16.toArray 27 (0, 0)) by rw [← hW5]; exact heap_alloc_new w4 _)
  have hn4 := N4.out.above
  clear hW5 hb5 N4 N3h NN ST Ag0 Ag1 Ag2 Ab18 Ac0 Ac18
  obtain ⟨⟨c0, c3, c4, c16, c17, c18, c19⟩, ⟨g0, g1, g2, g13⟩, ⟨b17, b18, b0⟩⟩ := N5.out.cells l17 (Below.refl _ W5)
  obtain ⟨h17, hh17⟩ : ∃ h17, Value.int .u64 seq :: x16 = h17 := ⟨_, rfl⟩
  have l17' : h17.length = 17 := by rw [← hh17, List.length_cons, l16]
  have o17 : ∀ v ∈ h17, v.oneCell' = true := by
    intro v hv
    rw [← hh17, HX.out] at hv
    exact head_one seq dig v hv
  have BD : ∀ w : World, heldBuild Ybaf.prog 62 #[(0, .int .u64 seq), (1, .agg x16.toArray)] w = .ok (.agg h17.toArray) w := fun w => by
    rw [← hh17]; exact build62 seq x16 l16 w
  have STH := store17 (W.heap.size + 1) h17 l17' o17
  have H17 := hide hh17
  have hN6 := N5.out.later (below_drewN (Below.refl _ W5) 1)
  obtain ⟨hN8, hr6⟩ := hN6.headed h17 l17' l17 stamp
  have e16 : (W5.drew.setCells (W.heap.size + 1) 0 h17).cell? ⟨W.heap.size + 1, 17, none⟩ = some (.int .u64 (d i).stamp) := (box_cells hr6 l17').1
  have f16 : (W5.drew.setCells (W.heap.size + 1) 0 h17).frozen? ⟨W.heap.size + 1, 17, none⟩ = false := free_of_row hr6
  obtain ⟨_, hr7⟩ := N5.out.headed h17 l17' l17 stamp
  have e17 := (box_cells hr7 l17').1
  have f17 : (W5.setCells (W.heap.size + 1) 0 h17).frozen? ⟨W.heap.size + 1, 17, none⟩ = false := free_of_row hr7
  have n27 : (Ybaf.prog.info? 27).map (·.size) = some x16.length := by rw [l16]; kernel_rfl
  have u27 := Ybaf.underlying27
  have r27 : W5.rangeAt w4.heap.size 0 x16 := fun j u hj => by rw [Nat.zero_add, cell_of_row W5 w4.heap.size j _ 27 (0, 0) D5.out, List.getElem?_toArray]; exact hj
  have t17 := N5.out.there17 l17
  have hlo := N5.out.lo
  have hlt4 : W.heap.size + 1 ≠ w4.heap.size := by omega
  have sA : ∀ w' : World, w'.heap = W5.heap → w'.cell? ⟨W.heap.size, 1, none⟩ = some (.int .u64 seq) ∧ w'.cell? ⟨W.heap.size, 2, none⟩ = some (.int .u64 stamp) ∧ w'.rangeAt w4.heap.size 0 x16 ∧ w'.there (W.heap.size + 1) 0 17 := fun w' hw => by
    have hc : ∀ a, w'.cell? a = W5.cell? a := fun a => by simp only [World.cell?, hw]
    have hf : ∀ a, w'.frozen? a = W5.frozen? a := fun a => by simp only [World.frozen?, hw]
    refine ⟨(hc _).trans g1, (hc _).trans g2, fun j u hj => (hc _).trans (r27 j u hj), fun j hj => ?_⟩
    rw [hc, hf]
    exact t17 j hj
  have sB : ∀ w' : World, w'.heap = W5.heap → (w'.setCells (W.heap.size + 1) 0 h17).cell? ⟨W.heap.size, 1, none⟩ = some (.int .u64 seq) ∧ (w'.setCells (W.heap.size + 1) 0 h17).cell? ⟨W.heap.size, 2, none⟩ = some (.int .u64 stamp) ∧ (w'.setCells (W.heap.size + 1) 0 h17).rangeAt w4.heap.size 0 x16 ∧ (w'.setCells (W.heap.size + 1) 0 h17).there (W.heap.size + 1) 0 17 := fun w' hw => by
    obtain ⟨a1, a2, a3, a4⟩ := sA w' hw
    exact ⟨by rw [World.cell?_setCells_out _ _ _ _ _ (fun h => absurd h (by show W.heap.size ≠ W.heap.size + 1; omega))]; exact a1, by rw [World.cell?_setCells_out _ _ _ _ _ (fun h => absurd h (by show W.heap.size ≠ W.heap.size + 1; omega))]; exact a2, World.rangeAt_setCells_apart a3 _ _ _ (.inl (Ne.symm hlt4)), World.there_setCells a4 _ _ _⟩
  have sC : ∀ (w' : World) (u : Value), w'.cell? ⟨W.heap.size, 1, none⟩ = some (.int .u64 seq) ∧ w'.cell? ⟨W.heap.size, 2, none⟩ = some (.int .u64 stamp) ∧ w'.rangeAt w4.heap.size 0 x16 ∧ w'.there (W.heap.size + 1) 0 17 → (w'.setCell ⟨W.heap.size + 1, 17, none⟩ u).cell? ⟨W.heap.size, 1, none⟩ = some (.int .u64 seq) ∧ (w'.setCell ⟨W.heap.size + 1, 17, none⟩ u).cell? ⟨W.heap.size, 2, none⟩ = some (.int .u64 stamp) ∧ (w'.setCell ⟨W.heap.size + 1, 17, none⟩ u).rangeAt w4.heap.size 0 x16 ∧ (w'.setCell ⟨W.heap.size + 1, 17, none⟩ u).there (W.heap.size + 1) 0 17 := fun w' u ⟨a1, a2, a3, a4⟩ => by
    refine ⟨(cell_other _ _ _ _ _ _ (by omega)).trans a1, (cell_other _ _ _ _ _ _ (by omega)).trans a2, fun j v hj => (cell_other _ _ _ _ _ _ (Ne.symm hlt4)).trans (a3 j v hj), ?_⟩
    exact there_setCell a4 _ _ _
  clear hh17 hN6 hr6 hr7 r27 t17 c0 c3 c4 c16 c17 c18 c19 g0 g1 g2 g13 b17 b18 b0
  have N8 := hide hN8
  clear hN8
  apply region_then
  case h1 =>
    go_region_held3 (fun w' => w'.cell? ⟨W.heap.size, 1, none⟩ = some (.int .u64 seq) ∧ w'.cell? ⟨W.heap.size, 2, none⟩ = some (.int .u64 stamp) ∧ w'.rangeAt w4.heap.size 0 x16 ∧ w'.there (W.heap.size + 1) 0 17) (first | exact sA _ rfl | exact sB _ rfl | (refine sC _ _ ?_; assumption)) (fail)
    all_goals exact ⟨rfl, rfl, rfl⟩
  generalize hW8 : World.setCell _ _ _ = W8
  have N9 := hide (show Now W W8 W.heap.size B true ch d ls cv (some i) mk i seq stamp dig h17 stamp (cv i) (d i).marks by rw [← hW8]; exact N8.out)
  clear hW8 N8 sA sB sC e16 f16 e17 f17 n27 u27 STH BD o17 N5 D5 hlo hlt4 hn4
  have z0 := (N9.out.cells l17' (Below.refl _ W8)).1.2.1
  have f3 : W8.frozen? ⟨B + 3, 3, none⟩ = false := free_of_row N9.out.cr
  simp only [devName] at z0
  go_wp2_with fail
  generalize hW6 : World.setCell _ _ _ = W6
  have N6 := hide (show Now W W6 W.heap.size B true ch d ls cv none mk i seq stamp dig h17 stamp (cv i) (d i).marks by rw [← hW6]; exact N9.out.unmarked)
  clear hW6 N9 z0 f3 l17
  have l17 := l17'
  obtain ⟨W7, hrun7, AC, hk7⟩ := (N6.out.later (below_drewN (Below.refl _ W6) 1)).done { present := true, stamp := stamp, seq := seq, dig := dig, marks := (d i).marks } (by show Value.agg (headCells (hseq _) (hdig _) ++ _).toArray = _; simp only [hseq, hdig, if_neg hz0, headCells, ← HX.out, H17.out]) rfl rfl
  obtain ⟨⟨c0, c3, c4, c16, c17, c18, c19⟩, ⟨g0, g1, g2, g13⟩, ⟨b17, b18, b0⟩⟩ := N6.out.cells l17 (Below.refl _ W6)
  have l65 : (h17 ++ [Value.int .u64 stamp, (cv i)]).length = 19 := by rw [List.length_append, l17]; rfl
  have hlo := N6.out.lo
  have hab := N6.out.above
  generalize h17 ++ [Value.int .u64 stamp, (cv i)] = cs at hrun7 b0 l65
  have hrun8 : (Instr.mapUpdate 24 (.map (some B)) (.string (nm i)) (.agg cs.toArray)).run Ybaf.prog W6.drew = .ok () W7 := hrun7
  have sA : W6.drew.cell? ⟨B + 3, 0, none⟩ = some (.pointer (some ⟨B + 2, 0, none⟩)) ∧ W6.drew.cell? ⟨B + 2, 16, none⟩ = some (.map (some B)) ∧ W6.drew.cell? ⟨W.heap.size, 0, none⟩ = some (.string (nm i)) ∧ heldLoad Ybaf.prog 65 (.pointer (some ⟨W.heap.size + 1, 0, none⟩)) W6.drew = .ok (.agg (List.toArray cs)) W6.drew := ⟨c0, c16, g0, load65_at _ _ cs b0 l65⟩
  have hk8 : ∀ q, q < W6.heap.size → q ≠ B → W7.heap[q]? = W6.heap[q]? := hk7
  have hkx : ∀ j, W7.cell? ⟨W.heap.size + 1, j, none⟩ = W6.cell? ⟨W.heap.size + 1, j, none⟩ := cell_of_block (hk8 _ (by omega) (by omega))
  have sB : W7.cell? ⟨B + 3, 0, none⟩ = some (.pointer (some ⟨B + 2, 0, none⟩)) ∧ W7.cell? ⟨B + 2, 16, none⟩ = some (.map (some B)) ∧ W7.cell? ⟨W.heap.size, 0, none⟩ = some (.string (nm i)) ∧ heldLoad Ybaf.prog 65 (.pointer (some ⟨W.heap.size + 1, 0, none⟩)) W7 = .ok (.agg (List.toArray cs)) W7 := ⟨(cell_of_block (hk8 _ (by omega) (by omega)) _).trans c0, (cell_of_block (hk8 _ (by omega) (by omega)) _).trans c16, (cell_of_block (hk8 _ (by omega) (by omega)) _).trans g0, load65_at _ _ cs (fun j u hj => (hkx _).trans (b0 j u hj)) l65⟩
  have ACh := hide AC
  clear AC hk7 hk8 hkx l65 b0 c0 c16 g0 c3 c4 c17 c18 c19 g1 g2 g13 b17 b18
  apply region_then
  case h1 =>
    go_region_held3 (fun w' => w'.cell? ⟨B + 3, 0, none⟩ = some (.pointer (some ⟨B + 2, 0, none⟩)) ∧ w'.cell? ⟨B + 2, 16, none⟩ = some (.map (some B)) ∧ w'.cell? ⟨W.heap.size, 0, none⟩ = some (.string (nm i)) ∧ heldLoad Ybaf.prog 65 (.pointer (some ⟨W.heap.size + 1, 0, none⟩)) w' = .ok (.agg (List.toArray cs)) w') (first | exact sA | exact sB) (fail)
    all_goals exact ⟨rfl, rfl, rfl⟩
  clear hrun7 hrun8 sA sB
  go_wp2_with fail
  go_ret
  exact ⟨rfl, ACh.out⟩

set_option maxRecDepth 100000 in
set_option maxHeartbeats 1000000 in
theorem acc_some_cover_lined (W : World) (B : Nat) (mi : Bool) (ch : Int) (d : Nat → Dev) (ls : Nat → Bool) (cv : Nat → Value) (mk : Int) (i : Nat) (seq stamp dig : Int) (R : Rd W B mi ch d ls cv (some i) mk) (hi : i < 3) (ev : Value) (k0 : 0 ≤ dig) (k1 : dig ≤ 255) (hE : W.cell? ⟨0, 0, none⟩ = some ev) (hB0 : 0 < B) (hB : B + 5 ≤ W.heap.size) (hp : (d i).present = false) (hmi : mi = true) (h2 : mk < seq) (hz0 : stamp ≠ 0) (hz : (d i).stamp = 0) :
    Calls Ybaf.prog 6 #[.pointer (some ⟨B + 3, 0, none⟩), .agg (lineCells i seq stamp dig)] W fun e w' => e = .returned .nilIface ∧ Accept W w' B mi ch d (upd ls i true) cv none mk i { present := true, stamp := stamp, seq := seq, dig := dig, marks := (d i).marks } := by
  subst hmi
  have HP : Hid ((d i).present = false) := hp
  clear hp
  unfold lineCells
  go_enter Ybaf.func6, Ybaf.ntmps6
  go_wp2_with fail
  generalize hW1 : W.alloc _ = W1
  have line : W1.heap[W.heap.size]? = some (.cells (lineCells i seq stamp dig) 55 (0, 0)) := by rw [← hW1]; exact heap_alloc_new W _
  have hb1 : Below W.heap.size W W1 := by rw [← hW1]; exact (Below.refl _ W).alloc (Nat.le_refl _) _
  have hs1 : W1.heap.size = W.heap.size + 1 := by rw [← hW1]; simp
  clear hW1
  have R1 := hide (R.below hb1)
  have L1 := hide line
  have HB := hide hb1
  clear hb1 line
  obtain ⟨c0, c3, c4, c16, c17, c18, c19⟩ := R1.out.cells (Below.refl _ W1)
  obtain ⟨g0, g1, g2, g13⟩ := line_cells L1.out (Below.refl _ W1)
  simp only [devName] at c3
  go_quiet (fail)
  clear c0 c3 c4 c16 c17 c18 c19 g0 g1 g2 g13
  go_wp2_with fail
  have C0 := fun w' (hb : Below (W.heap.size + 1) W1 w') => (R1.out.cells (hs1 ▸ hb)).1
  have C16 := fun w' (hb : Below (W.heap.size + 1) W1 w') => (R1.out.cells (hs1 ▸ hb)).2.2.2.1
  have G0 := fun w' (hb : Below (W.heap.size + 1) W1 w') => (line_cells L1.out (hs1 ▸ hb)).1
  have LK := fun w' (hb : Below (W.heap.size + 1) W1 w') => ((R1.out.below (hs1 ▸ hb)).covers).look hi Ybaf.underlying24 (zero65_is w')
  obtain ⟨hd, hhd⟩ : ∃ hd, headCells (hseq (d i)) (hdig (d i)) = hd := ⟨_, rfl⟩
  have l17 : hd.length = 17 := by rw [← hhd]; exact head_len _ _
  simp only [cov, hhd] at LK
  generalize hcs : hd ++ [Value.int .u64 (d i).stamp, cv i] = cs at LK
  have l19 : cs.length = 19 := by rw [← hcs, List.length_append, l17]; rfl
  have o19 : ∀ v ∈ cs, v.oneCell' = true := by
    intro v hv
    rw [← hcs, ← hhd] at hv
    rcases List.mem_append.1 hv with h | h
    · exact head_one _ _ v h
    · simp only [List.mem_cons, List.not_mem_nil, or_false] at h
      rcases h with rfl | rfl
      · rfl
      · exact slice_one (R.own i hi)
  have ST := fun (w' : World) (t : TypeId) (hn : w'.heap.size = W.heap.size + 1) => store_new w' zero65.toList cs t (by rw [l19]; rfl) o19 (W.heap.size + 1) hn
  simp only [zero65] at ST
  have HC := hide hcs
  have HH := hide hhd
  have RR := hide R
  clear hcs hhd R
  have hbd : ∀ q, Below (W.heap.size + 1) W1 (W1.drewN q) := fun q => below_drewN (Below.refl _ _) _
  have hba : ∀ q o, Below (W.heap.size + 1) W1 ((W1.drewN q).alloc o) := fun q o => (hbd q).alloc (by show _ ≤ W1.heap.size; omega) _
  apply region_then
  case h1 =>
    go_region_held3 (fun w' => Below (W.heap.size + 1) W1 w') (first | exact hbd _ | exact hba _ _ | exact (hbd _).drew) (fail)
    all_goals exact ⟨rfl, rfl, rfl⟩
  clear C0 C16 G0 LK ST hbd hba
  generalize hW2 : World.alloc _ _ = W2
  have N : Now W W2 W.heap.size B true ch d ls cv (some i) mk i seq stamp dig hd (d i).stamp (cv i) (d i).marks := by
    rw [← HC.out] at hW2
    subst hW2
    have hb : Below (W.heap.size + 1) W1 ((W1.drewN (nq + 1)).alloc (.cells (hd ++ [Value.int .u64 (d i).stamp, cv i]).toArray 65)) := (below_drewN (Below.refl _ _) _).alloc (by show _ ≤ W1.heap.size; omega) _
    refine Now.start RR.out hi hB (HB.out.trans (hb.mono (by omega))) ((hb.block _ (by omega)).trans L1.out) ?_
    rw [← hs1]
    exact heap_alloc_new (W1.drewN (nq + 1)) _
  have hs2 : W2.heap.size = W.heap.size + 2 := by rw [← hW2]; show (World.alloc _ _).heap.size = _; simp; exact hs1
  have NN := hide N
  clear hW2 N R1 L1 HB HC l19 o19 hs1
  obtain ⟨⟨c0, c3, c4, c16, c17, c18, c19⟩, ⟨g0, g1, g2, g13⟩, ⟨b17, b18, b0⟩⟩ := NN.out.cells l17 (Below.refl _ W2)
  simp only [devName] at c3
  simp only [marksName] at c18
  have hp := HP.out
  have hq : decide (seq ≤ mk) = false := decide_eq_false (by omega)
  have hst : (stamp != 0) = true := bne_iff_ne.2 hz0
  have hst2 : (stamp == 0) = false := by simpa using hz0
  rw [hz] at b17
  go_wp2_with fail
  go_quiet (fail)
  go_wp2_with fail
  obtain ⟨W3, hrun3, N3, hs3⟩ := (NN.out.later (below_drewN (Below.refl _ W2) (nq + 1))).lined
  have sA : (W2.drewN (nq + 1)).cell? ⟨B + 3, 0, none⟩ = some (.pointer (some ⟨B + 2, 0, none⟩)) ∧ (W2.drewN (nq + 1)).cell? ⟨B + 2, 19, none⟩ = some (.map (some (B + 1))) ∧ (W2.drewN (nq + 1)).cell? ⟨B + 2, 17, none⟩ = some (.int .i64 ch) ∧ (W2.drewN (nq + 1)).cell? ⟨W.heap.size, 0, none⟩ = some (.string (nm i)) := ⟨c0, c19, c17, g0⟩
  clear c0 c3 c4 c16 c17 c18 c19 g0 g1 g2 g13 b17 b18 b0
  obtain ⟨⟨c0, c3, c4, c16, c17, c18, c19⟩, ⟨g0, g1, g2, g13⟩, ⟨b17, b18, b0⟩⟩ := N3.cells l17 (Below.refl _ W3)
  have sB : W3.cell? ⟨B + 3, 0, none⟩ = some (.pointer (some ⟨B + 2, 0, none⟩)) ∧ W3.cell? ⟨B + 2, 19, none⟩ = some (.map (some (B + 1))) ∧ W3.cell? ⟨B + 2, 17, none⟩ = some (.int .i64 ch) ∧ W3.cell? ⟨W.heap.size, 0, none⟩ = some (.string (nm i)) := ⟨c0, c19, c17, g0⟩
  have N3h := hide N3
  clear N3
  apply region_then
  case h1 =>
    go_region_held3 (fun w' => w'.cell? ⟨B + 3, 0, none⟩ = some (.pointer (some ⟨B + 2, 0, none⟩)) ∧ w'.cell? ⟨B + 2, 19, none⟩ = some (.map (some (B + 1))) ∧ w'.cell? ⟨B + 2, 17, none⟩ = some (.int .i64 ch) ∧ w'.cell? ⟨W.heap.size, 0, none⟩ = some (.string (nm i))) (first | exact sA | exact sB) (fail)
    all_goals exact ⟨rfl, rfl, rfl⟩
  clear hrun3 sA sB
  go_wp2_with fail
  refine (parse_letters dig ev _ k0 k1 (by exact N3h.out.ev hB0 hE)).mono ?_
  rintro e w4 ⟨x16, hx16, rfl, hb4⟩
  have N4 := hide (N3h.out.later hb4)
  have HX := hide hx16
  have l16 : x16.length = 16 := by rw [hx16]; exact List.length_replicate
  have o16 : ∀ v ∈ x16, v.oneCell' = true := by rw [hx16]; exact sixteen_one dig
  have ST := fun (t : TypeId) => store_new w4 zeros.toList x16 t (by rw [l16]; rfl) o16 w4.heap.size rfl
  simp only [zeros] at ST
  clear hx16 hb4 o16
  clear c0 c3 c4 c16 c17 c18 c19 g0 g1 g2 g13 b17 b18 b0
  have AF := fun o => N4.out.cells l17 ((Below.refl _ w4).alloc (Nat.le_refl _) o)
  have Ag0 := fun o => (AF o).2.1.1
  have Ag1 := fun o => (AF o).2.1.2.1
  have Ag2 := fun o => (AF o).2.1.2.2.1
  have Ab18 := fun o => (AF o).2.2.2.1
  have Ac0 := fun o => (AF o).1.1
  have Ac18 := fun o => (AF o).1.2.2.2.2.2.1
  simp only [marksName] at Ac18
  clear AF
  go_wp2_with fail
  generalize hW5 : w4.alloc _ = W5
  have hb5 : Below w4.heap.size w4 W5 := by rw [← hW5]; exact (Below.refl _ w4).alloc (Nat.le_refl _) _
  have N5 := hide (N4.out.later hb5)
  have D5 := hide (show W5.heap[w4.heap.size]? = some (.cells x16.toArray 27 (0, 0)) by rw [← hW5]; exact heap_alloc_new w4 _)
  have hn4 := N4.out.above
  clear hW5 hb5 N4 N3h NN ST Ag0 Ag1 Ag2 Ab18 Ac0 Ac18
  obtain ⟨⟨c0, c3, c4, c16, c17, c18, c19⟩, ⟨g0, g1, g2, g13⟩, ⟨b17, b18, b0⟩⟩ := N5.out.cells l17 (Below.refl _ W5)
  obtain ⟨h17, hh17⟩ : ∃ h17, Value.int .u64 seq :: x16 = h17 := ⟨_, rfl⟩
  have l17' : h17.length = 17 := by rw [← hh17, List.length_cons, l16]
  have o17 : ∀ v ∈ h17, v.oneCell' = true := by
    intro v hv
    rw [← hh17, HX.out] at hv
    exact head_one seq dig v hv
  have BD : ∀ w : World, heldBuild Ybaf.prog 62 #[(0, .int .u64 seq), (1, .agg x16.toArray)] w = .ok (.agg h17.toArray) w := fun w => by
    rw [← hh17]; exact build62 seq x16 l16 w
  have STH := store17 (W.heap.size + 1) h17 l17' o17
  have H17 := hide hh17
  have hN6 := N5.out.later (below_drewN (Below.refl _ W5) 1)
  obtain ⟨hN8, hr6⟩ := hN6.headed h17 l17' l17 stamp
  have e16 : (W5.drew.setCells (W.heap.size + 1) 0 h17).cell? ⟨W.heap.size + 1, 17, none⟩ = some (.int .u64 (d i).stamp) := (box_cells hr6 l17').1
  have f16 : (W5.drew.setCells (W.heap.size + 1) 0 h17).frozen? ⟨W.heap.size + 1, 17, none⟩ = false := free_of_row hr6
  obtain ⟨_, hr7⟩ := N5.out.headed h17 l17' l17 stamp
  have e17 := (box_cells hr7 l17').1
  have f17 : (W5.setCells (W.heap.size + 1) 0 h17).frozen? ⟨W.heap.size + 1, 17, none⟩ = false := free_of_row hr7
  have n27 : (Ybaf.prog.info? 27).map (·.size) = some x16.length := by rw [l16]; kernel_rfl
  have u27 := Ybaf.underlying27
  have r27 : W5.rangeAt w4.heap.size 0 x16 := fun j u hj => by rw [Nat.zero_add, cell_of_row W5 w4.heap.size j _ 27 (0, 0) D5.out, List.getElem?_toArray]; exact hj
  have t17 := N5.out.there17 l17
  have hlo := N5.out.lo
  have hlt4 : W.heap.size + 1 ≠ w4.heap.size := by omega
  have sA : ∀ w' : World, w'.heap = W5.heap → w'.cell? ⟨W.heap.size, 1, none⟩ = some (.int .u64 seq) ∧ w'.cell? ⟨W.heap.size, 2, none⟩ = some (.int .u64 stamp) ∧ w'.rangeAt w4.heap.size 0 x16 ∧ w'.there (W.heap.size + 1) 0 17 := fun w' hw => by
    have hc : ∀ a, w'.cell? a = W5.cell? a := fun a => by simp only [World.cell?, hw]
    have hf : ∀ a, w'.frozen? a = W5.frozen? a := fun a => by simp only [World.frozen?, hw]
    refine ⟨(hc _).trans g1, (hc _).trans g2, fun j u hj => (hc _).trans (r27 j u hj), fun j hj => ?_⟩
    rw [hc, hf]
    exact t17 j hj
  have sB : ∀ w' : World, w'.heap = W5.heap → (w'.setCells (W.heap.size + 1) 0 h17).cell? ⟨W.heap.size, 1, none⟩ = some (.int .u64 seq) ∧ (w'.setCells (W.heap.size + 1) 0 h17).cell? ⟨W.heap.size, 2, none⟩ = some (.int .u64 stamp) ∧ (w'.setCells (W.heap.size + 1) 0 h17).rangeAt w4.heap.size 0 x16 ∧ (w'.setCells (W.heap.size + 1) 0 h17).there (W.heap.size + 1) 0 17 := fun w' hw => by
    obtain ⟨a1, a2, a3, a4⟩ := sA w' hw
    exact ⟨by rw [World.cell?_setCells_out _ _ _ _ _ (fun h => absurd h (by show W.heap.size ≠ W.heap.size + 1; omega))]; exact a1, by rw [World.cell?_setCells_out _ _ _ _ _ (fun h => absurd h (by show W.heap.size ≠ W.heap.size + 1; omega))]; exact a2, World.rangeAt_setCells_apart a3 _ _ _ (.inl (Ne.symm hlt4)), World.there_setCells a4 _ _ _⟩
  have sC : ∀ (w' : World) (u : Value), w'.cell? ⟨W.heap.size, 1, none⟩ = some (.int .u64 seq) ∧ w'.cell? ⟨W.heap.size, 2, none⟩ = some (.int .u64 stamp) ∧ w'.rangeAt w4.heap.size 0 x16 ∧ w'.there (W.heap.size + 1) 0 17 → (w'.setCell ⟨W.heap.size + 1, 17, none⟩ u).cell? ⟨W.heap.size, 1, none⟩ = some (.int .u64 seq) ∧ (w'.setCell ⟨W.heap.size + 1, 17, none⟩ u).cell? ⟨W.heap.size, 2, none⟩ = some (.int .u64 stamp) ∧ (w'.setCell ⟨W.heap.size + 1, 17, none⟩ u).rangeAt w4.heap.size 0 x16 ∧ (w'.setCell ⟨W.heap.size + 1, 17, none⟩ u).there (W.heap.size + 1) 0 17 := fun w' u ⟨a1, a2, a3, a4⟩ => by
    refine ⟨(cell_other _ _ _ _ _ _ (by omega)).trans a1, (cell_other _ _ _ _ _ _ (by omega)).trans a2, fun j v hj => (cell_other _ _ _ _ _ _ (Ne.symm hlt4)).trans (a3 j v hj), ?_⟩
    exact there_setCell a4 _ _ _
  clear hh17 hN6 hr6 hr7 r27 t17 c0 c3 c4 c16 c17 c18 c19 g0 g1 g2 g13 b17 b18 b0
  have N8 := hide hN8
  clear hN8
  apply region_then
  case h1 =>
    go_region_held3 (fun w' => w'.cell? ⟨W.heap.size, 1, none⟩ = some (.int .u64 seq) ∧ w'.cell? ⟨W.heap.size, 2, none⟩ = some (.int .u64 stamp) ∧ w'.rangeAt w4.heap.size 0 x16 ∧ w'.there (W.heap.size + 1) 0 17) (first | exact sA _ rfl | exact sB _ rfl | (refine sC _ _ ?_; assumption)) (fail)
    all_goals exact ⟨rfl, rfl, rfl⟩
  generalize hW8 : World.setCell _ _ _ = W8
  have N9 := hide (show Now W W8 W.heap.size B true ch d (upd ls i true) cv (some i) mk i seq stamp dig h17 stamp (cv i) (d i).marks by rw [← hW8]; exact N8.out)
  clear hW8 N8 sA sB sC e16 f16 e17 f17 n27 u27 STH BD o17 N5 D5 hlo hlt4 hn4
  have z0 := (N9.out.cells l17' (Below.refl _ W8)).1.2.1
  have f3 : W8.frozen? ⟨B + 3, 3, none⟩ = false := free_of_row N9.out.cr
  simp only [devName] at z0
  go_wp2_with fail
  generalize hW6 : World.setCell _ _ _ = W6
  have N6 := hide (show Now W W6 W.heap.size B true ch d (upd ls i true) cv none mk i seq stamp dig h17 stamp (cv i) (d i).marks by rw [← hW6]; exact N9.out.unmarked)
  clear hW6 N9 z0 f3 l17
  have l17 := l17'
  obtain ⟨W7, hrun7, AC, hk7⟩ := (N6.out.later (below_drewN (Below.refl _ W6) 1)).done { present := true, stamp := stamp, seq := seq, dig := dig, marks := (d i).marks } (by show Value.agg (headCells (hseq _) (hdig _) ++ _).toArray = _; simp only [hseq, hdig, if_neg hz0, headCells, ← HX.out, H17.out]) rfl rfl
  obtain ⟨⟨c0, c3, c4, c16, c17, c18, c19⟩, ⟨g0, g1, g2, g13⟩, ⟨b17, b18, b0⟩⟩ := N6.out.cells l17 (Below.refl _ W6)
  have l65 : (h17 ++ [Value.int .u64 stamp, (cv i)]).length = 19 := by rw [List.length_append, l17]; rfl
  have hlo := N6.out.lo
  have hab := N6.out.above
  generalize h17 ++ [Value.int .u64 stamp, (cv i)] = cs at hrun7 b0 l65
  have hrun8 : (Instr.mapUpdate 24 (.map (some B)) (.string (nm i)) (.agg cs.toArray)).run Ybaf.prog W6.drew = .ok () W7 := hrun7
  have sA : W6.drew.cell? ⟨B + 3, 0, none⟩ = some (.pointer (some ⟨B + 2, 0, none⟩)) ∧ W6.drew.cell? ⟨B + 2, 16, none⟩ = some (.map (some B)) ∧ W6.drew.cell? ⟨W.heap.size, 0, none⟩ = some (.string (nm i)) ∧ heldLoad Ybaf.prog 65 (.pointer (some ⟨W.heap.size + 1, 0, none⟩)) W6.drew = .ok (.agg (List.toArray cs)) W6.drew := ⟨c0, c16, g0, load65_at _ _ cs b0 l65⟩
  have hk8 : ∀ q, q < W6.heap.size → q ≠ B → W7.heap[q]? = W6.heap[q]? := hk7
  have hkx : ∀ j, W7.cell? ⟨W.heap.size + 1, j, none⟩ = W6.cell? ⟨W.heap.size + 1, j, none⟩ := cell_of_block (hk8 _ (by omega) (by omega))
  have sB : W7.cell? ⟨B + 3, 0, none⟩ = some (.pointer (some ⟨B + 2, 0, none⟩)) ∧ W7.cell? ⟨B + 2, 16, none⟩ = some (.map (some B)) ∧ W7.cell? ⟨W.heap.size, 0, none⟩ = some (.string (nm i)) ∧ heldLoad Ybaf.prog 65 (.pointer (some ⟨W.heap.size + 1, 0, none⟩)) W7 = .ok (.agg (List.toArray cs)) W7 := ⟨(cell_of_block (hk8 _ (by omega) (by omega)) _).trans c0, (cell_of_block (hk8 _ (by omega) (by omega)) _).trans c16, (cell_of_block (hk8 _ (by omega) (by omega)) _).trans g0, load65_at _ _ cs (fun j u hj => (hkx _).trans (b0 j u hj)) l65⟩
  have ACh := hide AC
  clear AC hk7 hk8 hkx l65 b0 c0 c16 g0 c3 c4 c17 c18 c19 g1 g2 g13 b17 b18
  apply region_then
  case h1 =>
    go_region_held3 (fun w' => w'.cell? ⟨B + 3, 0, none⟩ = some (.pointer (some ⟨B + 2, 0, none⟩)) ∧ w'.cell? ⟨B + 2, 16, none⟩ = some (.map (some B)) ∧ w'.cell? ⟨W.heap.size, 0, none⟩ = some (.string (nm i)) ∧ heldLoad Ybaf.prog 65 (.pointer (some ⟨W.heap.size + 1, 0, none⟩)) w' = .ok (.agg (List.toArray cs)) w') (first | exact sA | exact sB) (fail)
    all_goals exact ⟨rfl, rfl, rfl⟩
  clear hrun7 hrun8 sA sB
  go_wp2_with fail
  go_ret
  exact ⟨rfl, ACh.out⟩
end Go.Proofs.YbulkantuFmt
