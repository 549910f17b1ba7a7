/-
  DERIVED. THE WALK of the law (written by a small script of mine out of one pattern; this one: marksIn true).
-/
import Derived.Test.YbulkantuFmtLast
namespace Go.Proofs.YbulkantuFmt
open Go.RowKit Go.Extern.Stop Go.Stop Go.Extern
attribute [local go_sem ↓] Go.wp_at_zero Go.wp_at_succ hold27 holdN27
set_option maxRecDepth 100000 in
set_option maxHeartbeats 16000000 in
theorem law_true (F : Interp) (a : Option Addr) (n c : Nat) (ch : Int) (W : World) (B : Nat) (hB : W.heap.size = B) (ev : Value) (D Q S G : Nat → Int) (hst : Steps W a n D Q S G) (hn : n ≤ 1024) (hF : F.answers W.tape) (hE : W.cell? ⟨0, 0, none⟩ = some ev) :
    Calls Ybaf.prog 3 #[.slice a n c, .bool true, .int .i64 ch] W fun e w' => e = .returned (.bool true) ∧ Below W.heap.size W w' := by
  have hmm := @run_makeMap Ybaf.prog
  have hd : decide ((1024 : Int) < (n : Int)) = false := decide_eq_false (by omega)
  have U0 := hide (duo_new W true ch B hB)
  have HST := hide hst
  have HF := hide hF
  have HE := hide hE
  clear hst hF hE
  go_enter Ybaf.func3, Ybaf.ntmps3
  go_wp2_with fail
  simp only [Nat.add_assoc, Nat.reduceAdd]
  generalize hW0 : World.alloc _ _ = W0
  have U1 := hide (show Duo W W0 B true ch (fun _ => {}) (fun _ => false) (fun _ => .slice none 0 0) none 0 (mRow (fun _ => {}) (fun _ => false) ch (fun _ => .slice none 0 0)) (fun _ => .slice none 0 0) (fun _ => []) by rw [← hW0]; exact U0.out)
  clear hW0 U0
  go_loopw [10, 11, 45] (fun md mm kk wr => ∃ (k : Nat) (d : Nat → Dev) (ls : Nat → Bool) (cv mv : Nat → Value) (dn : Option Nat) (mk : Int), k ≤ n ∧ kk = .int .i64 k ∧ md = .int .i64 (mdev dn) ∧ mm = .int .u64 mk ∧ Duo W wr B true ch d ls cv dn mk (mRow d ls ch mv) mv (fun j => (d j).marks) ∧ (∀ j, j < 3 → (d j).marks.length ≤ k) ∧ ∀ j, dn = some j → j < 3) (fun _ _ kk _ => n - (intOf kk).toNat)
  case atStart => exact ⟨0, _, _, _, _, none, 0, by omega, rfl, rfl, rfl, U1.out, fun _ _ => Nat.le_refl _, fun j h => by cases h⟩
  case round =>
    obtain ⟨k, d, ls, cv, mv, dn, mk, hk, rfl, rfl, rfl, duo, few, stand⟩ := hrel
    have U := hide duo
    have FEW := hide few
    have STD := hide stand
    clear duo few stand U1
    by_cases hlt : k < n
    · obtain ⟨xb, xo, rfl, s0, s1, s2, s3, hxb⟩ := HST.out.cell k hlt
      have hbl := U.out.below
      have htop := U.out.top
      have t0 := (hbl.cell (p := ⟨xb, xo + k * 4, none⟩) (by show xb < B; omega)).trans s0
      have t1 := (hbl.cell (p := ⟨xb, xo + k * 4 + 1, none⟩) (by show xb < B; omega)).trans s1
      have t2 := (hbl.cell (p := ⟨xb, xo + k * 4 + 2, none⟩) (by show xb < B; omega)).trans s2
      have t3 := (hbl.cell (p := ⟨xb, xo + k * 4 + 3, none⟩) (by show xb < B; omega)).trans s3
      have q1 : (k : Int) < (n : Int) := by omega
      have q3 : (0 : Int) ≤ (k : Int) := by omega
      have hD := HST.out.dev k hlt
      have hG := HST.out.dig k hlt
      obtain ⟨i, hi, hi3⟩ : ∃ i : Nat, D k % 3 = (i : Int) ∧ i < 3 := ⟨(D k % 3).toNat, by omega, by omega⟩
      have htm : Int.tmod (D k) 3 = (i : Int) := by rw [Int.tmod_eq_emod_of_nonneg hD.1]; exact hi
      clear s0 s1 s2 s3 hbl
      go_wp2_with fail
      refine (name_any i hi3 _).mono ?_
      rintro e w1 ⟨rfl, rfl⟩
      go_wp2_with fail
      refine (dig_any (G k) _ hG.1 hG.2).mono ?_
      rintro e w2 ⟨rfl, hb2⟩
      have hsz2 := hb2.size
      simp at hsz2
      have st2 : w2.heap[wr.heap.size]? = some (.cells #[.int .u8 (D k), .int .u64 (Q k), .int .u64 (S k), .int .u8 (G k)] 40 (0, 0)) := by
        rw [hb2.block _ (by simp)]; exact heap_alloc_new wr _
      have hbw : Below wr.heap.size wr w2 := ((Below.refl _ wr).alloc (Nat.le_refl _) _).trans (hb2.mono (by simp))
      have U2 := hide (U.out.later hbw)
      have P0 : ∀ o, (w2.alloc o).cell? ⟨wr.heap.size, 0, none⟩ = some (.int .u8 (D k)) := fun o => by rw [cell_of_row _ wr.heap.size 0 _ 40 (0, 0) ((Below.heap_alloc _ _ _ (by omega)).trans st2)]; rfl
      have P1 : ∀ o, (w2.alloc o).cell? ⟨wr.heap.size, 1, none⟩ = some (.int .u64 (Q k)) := fun o => by rw [cell_of_row _ wr.heap.size 1 _ 40 (0, 0) ((Below.heap_alloc _ _ _ (by omega)).trans st2)]; rfl
      have P2 : ∀ o, (w2.alloc o).cell? ⟨wr.heap.size, 2, none⟩ = some (.int .u64 (S k)) := fun o => by rw [cell_of_row _ wr.heap.size 2 _ 40 (0, 0) ((Below.heap_alloc _ _ _ (by omega)).trans st2)]; rfl
      have ST2 := hide st2
      clear hb2 st2 t0 t1 t2 t3
      go_wp2_with fail
      generalize hW3 : w2.alloc _ = W3
      have hbw3 : Below w2.heap.size w2 W3 := by rw [← hW3]; exact (Below.refl _ w2).alloc (Nat.le_refl _) _
      have U3 := hide (U2.out.later hbw3)
      have ST3 := hide ((hbw3.block _ (by omega)).trans ST2.out)
      have hs3 : wr.heap.size < W3.heap.size := by have := hbw3.size; omega
      clear hW3 hbw3 U2 ST2 P0 P1 P2 hbw hsz2
      by_cases ht : Taken dn mk (d i) i (Q k) (S k)
      · have hE3 : W3.cell? ⟨0, 0, none⟩ = some ev := (U3.out.below.cell (p := ⟨0, 0, none⟩) (by have := World.block_lt_of_cell? W ⟨0, 0, none⟩ HE.out; show 0 < B; omega)).trans HE.out
        have hB0 : 0 < B := by have := World.block_lt_of_cell? W ⟨0, 0, none⟩ HE.out; omega
        refine (take_yes W3 B true ch d ls cv dn mk i (Q k) (S k) (G k) U3.out.rd hi3 ev hG.1 hG.2 hE3 hB0 (lt_of_block U3.out.row) (by have := FEW.out i hi3; omega) ht).mono ?_
        rintro e w4 ⟨rfl, hA⟩
        have hblk : w4.heap[wr.heap.size]? = W3.heap[wr.heap.size]? := by
          obtain ⟨_, _, _, K⟩ := hA
          have hrow := lt_of_block U.out.row
          exact K.block _ hs3 (by omega) (by omega) (by omega) (fun h => by have := (ownBlock_lt (U.out.rd.own i hi3) h.symm).2; omega)
        have ST4 := hblk.trans ST3.out
        obtain ⟨cv', hU4⟩ := U3.out.taken hi3 hA
        have p1 : w4.cell? ⟨wr.heap.size, 1, none⟩ = some (.int .u64 (Q k)) := by rw [cell_of_row _ wr.heap.size 1 _ 40 (0, 0) ST4]; rfl
        have p2 : w4.cell? ⟨wr.heap.size, 2, none⟩ = some (.int .u64 (S k)) := by rw [cell_of_row _ wr.heap.size 2 _ 40 (0, 0) ST4]; rfl
        have p3 : w4.cell? ⟨wr.heap.size, 3, none⟩ = some (.int .u8 (G k)) := by rw [cell_of_row _ wr.heap.size 3 _ 40 (0, 0) ST4]; rfl
        clear hA hblk ST4 U3 ST3
        have f : ∀ j, w4.frozen? ⟨B + 4, j, none⟩ = false := fun j => free_of_row hU4.row
        have hneq : wr.heap.size ≠ B + 4 := by have := lt_of_block U.out.row; omega
        by_cases hz : S k = 0
        · have m0 : w4.cell? ⟨B + 4, i * 7, none⟩ = some (.bool (d i).present) := by
            rw [cell_of_row w4 (B + 4) _ _ 38 (0, 0) hU4.row, List.getElem?_toArray]; exact mRow_get d ls ch mv i 0 hi3 (by omega)
          have m5 : w4.cell? ⟨B + 4, i * 7 + 5, none⟩ = some (.bool (ls i)) := by
            rw [cell_of_row w4 (B + 4) _ _ 38 (0, 0) hU4.row, List.getElem?_toArray, mRow_get d ls ch mv i 5 hi3 (by omega)]; rfl
          have m6 : w4.cell? ⟨B + 4, i * 7 + 6, none⟩ = some (.int .i64 (if ls i then ch else 0)) := by
            rw [cell_of_row w4 (B + 4) _ _ 38 (0, 0) hU4.row, List.getElem?_toArray, mRow_get d ls ch mv i 6 hi3 (by omega)]; rfl
          have hdv : devNext true (d i) (Q k) (S k) (G k) = ⟨true, (d i).stamp, (d i).seq, (d i).dig, (d i).marks⟩ := by rw [devNext, if_pos hz]; rfl
          rw [dnNext, mkNext, if_pos hz, if_pos hz] at hU4
          have HDV := hide hdv
          rw [hz] at p2
          clear hdv hz
          have hge : decide ((0 : Int) ≤ ((i : Nat) : Int)) = true := decide_eq_true (by omega)
          rcases ht.1 with rfl | ⟨rfl, hlt'⟩
          · cases hp : (d i).present
            · as_aux_lemma =>
                rw [show lsNext true ls (d i) i = upd ls i true by simp [lsNext, hp]] at hU4
                have U4 := hide hU4
                clear hU4
                simp only [mdev]
                rw [hp] at m0
                go_wp2_with fail
                generalize hW6 : World.setCell _ _ _ = W6
                have U6 := hide (show Duo W W6 B true ch (upd d i (devNext true (d i) (Q k) (S k) (G k))) (upd ls i true) cv' (some i) (Q k) (mRow (upd d i (devNext true (d i) (Q k) (S k) (G k))) (upd ls i true) ch mv) mv (fun j => (upd d i (devNext true (d i) (Q k) (S k) (G k)) j).marks) by rw [← hW6]; exact (U4.out.line hi3).seen HDV.out hi3)
                clear hW6 U4 m0 m5 m6 f
                obtain ⟨_, c3, c4, _⟩ := U6.out.rd.cells (Below.refl _ W6)
                simp only [devName] at c3
                have sA : W6.drew.cell? ⟨B + 3, 3, none⟩ = some (.string (nm i)) ∧ W6.drew.cell? ⟨B + 3, 4, none⟩ = some (.int .u64 (Q k)) := ⟨c3, c4⟩
                apply region_then
                case h1 =>
                  go_region_held3 (fun w' => w'.cell? ⟨B + 3, 3, none⟩ = some (.string (nm i)) ∧ w'.cell? ⟨B + 3, 4, none⟩ = some (.int .u64 (Q k))) (exact sA) (first | (go_at_call 4; refine (name_any i hi3 _).mono ?_; rintro e w' ⟨rfl, rfl⟩))
                  all_goals exact ⟨rfl, rfl, rfl⟩
                go_wp2_with fail
                go_roundw
                case rel => exact ⟨k + 1, upd d i (devNext true (d i) (Q k) (S k) (G k)), upd ls i true, cv', mv, some i, Q k, by omega, by go_num, rfl, rfl, U6.out.later (below_drewN (Below.refl _ W6) 1), few_upd FEW.out (by rw [HDV.out]; exact Nat.le_succ_of_le (FEW.out i hi3)), fun j h => by cases h; exact hi3⟩
                case measure => simp [intOf]; omega
            · as_aux_lemma =>
                rw [show lsNext true ls (d i) i = ls by simp [lsNext, hp]] at hU4
                have U4 := hide hU4
                clear hU4
                simp only [mdev]
                rw [hp] at m0
                go_wp2_with fail
                generalize hW6 : World.setCell _ _ _ = W6
                have U6 := hide (show Duo W W6 B true ch (upd d i (devNext true (d i) (Q k) (S k) (G k))) ls cv' (some i) (Q k) (mRow (upd d i (devNext true (d i) (Q k) (S k) (G k))) ls ch mv) mv (fun j => (upd d i (devNext true (d i) (Q k) (S k) (G k)) j).marks) by rw [← hW6]; exact U4.out.seen HDV.out hi3)
                clear hW6 U4 m0 m5 m6 f
                obtain ⟨_, c3, c4, _⟩ := U6.out.rd.cells (Below.refl _ W6)
                simp only [devName] at c3
                have sA : W6.drew.cell? ⟨B + 3, 3, none⟩ = some (.string (nm i)) ∧ W6.drew.cell? ⟨B + 3, 4, none⟩ = some (.int .u64 (Q k)) := ⟨c3, c4⟩
                apply region_then
                case h1 =>
                  go_region_held3 (fun w' => w'.cell? ⟨B + 3, 3, none⟩ = some (.string (nm i)) ∧ w'.cell? ⟨B + 3, 4, none⟩ = some (.int .u64 (Q k))) (exact sA) (first | (go_at_call 4; refine (name_any i hi3 _).mono ?_; rintro e w' ⟨rfl, rfl⟩))
                  all_goals exact ⟨rfl, rfl, rfl⟩
                go_wp2_with fail
                go_roundw
                case rel => exact ⟨k + 1, upd d i (devNext true (d i) (Q k) (S k) (G k)), ls, cv', mv, some i, Q k, by omega, by go_num, rfl, rfl, U6.out.later (below_drewN (Below.refl _ W6) 1), few_upd FEW.out (by rw [HDV.out]; exact Nat.le_succ_of_le (FEW.out i hi3)), fun j h => by cases h; exact hi3⟩
                case measure => simp [intOf]; omega
          · have hle : decide (Q k ≤ mk) = false := decide_eq_false (by omega)
            cases hp : (d i).present
            · as_aux_lemma =>
                rw [show lsNext true ls (d i) i = upd ls i true by simp [lsNext, hp]] at hU4
                have U4 := hide hU4
                clear hU4
                simp only [mdev]
                rw [hp] at m0
                go_wp2_with fail
                generalize hW6 : World.setCell _ _ _ = W6
                have U6 := hide (show Duo W W6 B true ch (upd d i (devNext true (d i) (Q k) (S k) (G k))) (upd ls i true) cv' (some i) (Q k) (mRow (upd d i (devNext true (d i) (Q k) (S k) (G k))) (upd ls i true) ch mv) mv (fun j => (upd d i (devNext true (d i) (Q k) (S k) (G k)) j).marks) by rw [← hW6]; exact (U4.out.line hi3).seen HDV.out hi3)
                clear hW6 U4 m0 m5 m6 f
                obtain ⟨_, c3, c4, _⟩ := U6.out.rd.cells (Below.refl _ W6)
                simp only [devName] at c3
                have sA : W6.drew.cell? ⟨B + 3, 3, none⟩ = some (.string (nm i)) ∧ W6.drew.cell? ⟨B + 3, 4, none⟩ = some (.int .u64 (Q k)) := ⟨c3, c4⟩
                apply region_then
                case h1 =>
                  go_region_held3 (fun w' => w'.cell? ⟨B + 3, 3, none⟩ = some (.string (nm i)) ∧ w'.cell? ⟨B + 3, 4, none⟩ = some (.int .u64 (Q k))) (exact sA) (first | (go_at_call 4; refine (name_any i hi3 _).mono ?_; rintro e w' ⟨rfl, rfl⟩))
                  all_goals exact ⟨rfl, rfl, rfl⟩
                go_wp2_with fail
                go_roundw
                case rel => exact ⟨k + 1, upd d i (devNext true (d i) (Q k) (S k) (G k)), upd ls i true, cv', mv, some i, Q k, by omega, by go_num, rfl, rfl, U6.out.later (below_drewN (Below.refl _ W6) 1), few_upd FEW.out (by rw [HDV.out]; exact Nat.le_succ_of_le (FEW.out i hi3)), fun j h => by cases h; exact hi3⟩
                case measure => simp [intOf]; omega
            · as_aux_lemma =>
                rw [show lsNext true ls (d i) i = ls by simp [lsNext, hp]] at hU4
                have U4 := hide hU4
                clear hU4
                simp only [mdev]
                rw [hp] at m0
                go_wp2_with fail
                generalize hW6 : World.setCell _ _ _ = W6
                have U6 := hide (show Duo W W6 B true ch (upd d i (devNext true (d i) (Q k) (S k) (G k))) ls cv' (some i) (Q k) (mRow (upd d i (devNext true (d i) (Q k) (S k) (G k))) ls ch mv) mv (fun j => (upd d i (devNext true (d i) (Q k) (S k) (G k)) j).marks) by rw [← hW6]; exact U4.out.seen HDV.out hi3)
                clear hW6 U4 m0 m5 m6 f
                obtain ⟨_, c3, c4, _⟩ := U6.out.rd.cells (Below.refl _ W6)
                simp only [devName] at c3
                have sA : W6.drew.cell? ⟨B + 3, 3, none⟩ = some (.string (nm i)) ∧ W6.drew.cell? ⟨B + 3, 4, none⟩ = some (.int .u64 (Q k)) := ⟨c3, c4⟩
                apply region_then
                case h1 =>
                  go_region_held3 (fun w' => w'.cell? ⟨B + 3, 3, none⟩ = some (.string (nm i)) ∧ w'.cell? ⟨B + 3, 4, none⟩ = some (.int .u64 (Q k))) (exact sA) (first | (go_at_call 4; refine (name_any i hi3 _).mono ?_; rintro e w' ⟨rfl, rfl⟩))
                  all_goals exact ⟨rfl, rfl, rfl⟩
                go_wp2_with fail
                go_roundw
                case rel => exact ⟨k + 1, upd d i (devNext true (d i) (Q k) (S k) (G k)), ls, cv', mv, some i, Q k, by omega, by go_num, rfl, rfl, U6.out.later (below_drewN (Below.refl _ W6) 1), few_upd FEW.out (by rw [HDV.out]; exact Nat.le_succ_of_le (FEW.out i hi3)), fun j h => by cases h; exact hi3⟩
                case measure => simp [intOf]; omega
        · have hS : (S k != 0) = true := bne_iff_ne.2 hz
          have hS2 : (S k == 0) = false := by simpa using hz
          have hT : (d i).stamp = 0 := ht.2.resolve_left hz
          have m1 : w4.cell? ⟨B + 4, i * 7 + 1, none⟩ = some (.int .u64 0) := by
            rw [cell_of_row w4 (B + 4) _ _ 38 (0, 0) hU4.row, List.getElem?_toArray, mRow_get d ls ch mv i 1 hi3 (by omega), ← hT]; rfl
          have m0 : w4.cell? ⟨B + 4, i * 7, none⟩ = some (.bool (d i).present) := by
            rw [cell_of_row w4 (B + 4) _ _ 38 (0, 0) hU4.row, List.getElem?_toArray]; exact mRow_get d ls ch mv i 0 hi3 (by omega)
          have m2 : w4.cell? ⟨B + 4, i * 7 + 2, none⟩ = some (.int .u64 (d i).seq) := by
            rw [cell_of_row w4 (B + 4) _ _ 38 (0, 0) hU4.row, List.getElem?_toArray, mRow_get d ls ch mv i 2 hi3 (by omega)]; rfl
          have m3 : w4.cell? ⟨B + 4, i * 7 + 3, none⟩ = some (.int .u8 (d i).dig) := by
            rw [cell_of_row w4 (B + 4) _ _ 38 (0, 0) hU4.row, List.getElem?_toArray, mRow_get d ls ch mv i 3 hi3 (by omega)]; rfl
          have m5 : w4.cell? ⟨B + 4, i * 7 + 5, none⟩ = some (.bool (ls i)) := by
            rw [cell_of_row w4 (B + 4) _ _ 38 (0, 0) hU4.row, List.getElem?_toArray, mRow_get d ls ch mv i 5 hi3 (by omega)]; rfl
          have m6 : w4.cell? ⟨B + 4, i * 7 + 6, none⟩ = some (.int .i64 (if ls i then ch else 0)) := by
            rw [cell_of_row w4 (B + 4) _ _ 38 (0, 0) hU4.row, List.getElem?_toArray, mRow_get d ls ch mv i 6 hi3 (by omega)]; rfl
          have c3 := (hU4.rd.cells (Below.refl _ w4)).2.1
          simp only [dnNext, if_neg hz, devName] at c3
          have hdv : devNext true (d i) (Q k) (S k) (G k) = ⟨true, S k, Q k, G k, (d i).marks⟩ := by rw [devNext, if_neg hz]
          rw [dnNext, mkNext, if_neg hz, if_neg hz] at hU4
          rcases ht.1 with rfl | ⟨rfl, hlt'⟩
          · cases hp : (d i).present
            · rw [show lsNext true ls (d i) i = (upd ls i true) by simp [lsNext, hp]] at hU4
              have U4 := hide hU4
              have HDV := hide hdv
              clear hU4 hdv
              simp only [mdev]
              rw [hp] at m0
              go_wp2_with fail
              go_roundw
              case rel => exact ⟨k + 1, upd d i (devNext true (d i) (Q k) (S k) (G k)), (upd ls i true), cv', mv, none, mk, by omega, by go_num, rfl, rfl, (U4.out.line hi3).cover HDV.out hi3, few_upd FEW.out (by rw [HDV.out]; exact Nat.le_succ_of_le (FEW.out i hi3)), fun j h => by cases h⟩
              case measure => simp [intOf]; omega
            · rw [show lsNext true ls (d i) i = ls by simp [lsNext, hp]] at hU4
              have U4 := hide hU4
              have HDV := hide hdv
              clear hU4 hdv
              simp only [mdev]
              rw [hp] at m0
              go_wp2_with fail
              go_roundw
              case rel => exact ⟨k + 1, upd d i (devNext true (d i) (Q k) (S k) (G k)), ls, cv', mv, none, mk, by omega, by go_num, rfl, rfl, U4.out.cover HDV.out hi3, few_upd FEW.out (by rw [HDV.out]; exact Nat.le_succ_of_le (FEW.out i hi3)), fun j h => by cases h⟩
              case measure => simp [intOf]; omega
          · have hge : decide ((0 : Int) ≤ ((i : Nat) : Int)) = true := decide_eq_true (by omega)
            have hle : decide (Q k ≤ mk) = false := decide_eq_false (by omega)
            cases hp : (d i).present
            · rw [show lsNext true ls (d i) i = (upd ls i true) by simp [lsNext, hp]] at hU4
              have U4 := hide hU4
              have HDV := hide hdv
              clear hU4 hdv
              simp only [mdev]
              rw [hp] at m0
              go_wp2_with fail
              go_roundw
              case rel => exact ⟨k + 1, upd d i (devNext true (d i) (Q k) (S k) (G k)), (upd ls i true), cv', mv, none, mk, by omega, by go_num, rfl, rfl, (U4.out.line hi3).cover HDV.out hi3, few_upd FEW.out (by rw [HDV.out]; exact Nat.le_succ_of_le (FEW.out i hi3)), fun j h => by cases h⟩
              case measure => simp [intOf]; omega
            · rw [show lsNext true ls (d i) i = ls by simp [lsNext, hp]] at hU4
              have U4 := hide hU4
              have HDV := hide hdv
              clear hU4 hdv
              simp only [mdev]
              rw [hp] at m0
              go_wp2_with fail
              go_roundw
              case rel => exact ⟨k + 1, upd d i (devNext true (d i) (Q k) (S k) (G k)), ls, cv', mv, none, mk, by omega, by go_num, rfl, rfl, U4.out.cover HDV.out hi3, few_upd FEW.out (by rw [HDV.out]; exact Nat.le_succ_of_le (FEW.out i hi3)), fun j h => by cases h⟩
              case measure => simp [intOf]; omega
      · refine (take_no F W3 B true ch d ls cv dn mk i (Q k) (S k) (G k) U3.out.rd (by rw [U3.out.below.tape]; exact HF.out) hi3 STD.out ht).mono ?_
        rintro e w4 ⟨ea, rfl, hb4⟩
        have U4 := hide (U3.out.later hb4)
        have ST4 := (hb4.block _ hs3).trans ST3.out
        have p1 : w4.cell? ⟨wr.heap.size, 1, none⟩ = some (.int .u64 (Q k)) := by rw [cell_of_row _ wr.heap.size 1 _ 40 (0, 0) ST4]; rfl
        have p2 : w4.cell? ⟨wr.heap.size, 2, none⟩ = some (.int .u64 (S k)) := by rw [cell_of_row _ wr.heap.size 2 _ 40 (0, 0) ST4]; rfl
        clear hb4 ST4 U3 ST3
        cases dn with
        | none =>
          have hS : (S k != 0) = true := bne_iff_ne.2 fun h => ht ⟨.inl rfl, .inl h⟩
          have hT : ((d i).stamp != 0) = true := bne_iff_ne.2 fun h => ht ⟨.inl rfl, .inr h⟩
          simp only [mdev]
          obtain ⟨m0, m1, m2, m3, m4, m5, m6⟩ := U4.out.mcells hi3
          obtain ⟨_, c3, c4, _⟩ := U4.out.rd.cells (Below.refl _ w4)
          simp only [devName] at c3
          go_wp2_with fail
          go_roundw
          case rel => exact ⟨k + 1, d, ls, cv, mv, none, mk, by omega, by go_num, rfl, rfl, U4.out, fun j hj => Nat.le_succ_of_le (FEW.out j hj), fun j h => by cases h⟩
          case measure => simp [intOf]; omega
        | some j =>
          have hj3 := STD.out j rfl
          by_cases hij : i = j
          · subst hij
            by_cases h0 : S k ≠ 0 ∧ (d i).stamp ≠ 0
            · as_aux_lemma =>
                skip
                have hge : decide ((0 : Int) ≤ ((i : Nat) : Int)) = true := decide_eq_true (by omega)
                simp only [mdev]
                obtain ⟨m0, m1, m2, m3, m4, m5, m6⟩ := U4.out.mcells hi3
                obtain ⟨_, c3, c4, _⟩ := U4.out.rd.cells (Below.refl _ w4)
                simp only [devName] at c3
                have hS : (S k != 0) = true := bne_iff_ne.2 h0.1
                have hT : ((d i).stamp != 0) = true := bne_iff_ne.2 h0.2
                go_wp2_with fail
                have sA : w4.drew.cell? ⟨B + 3, 3, none⟩ = some (.string (nm i)) ∧ w4.drew.cell? ⟨B + 3, 4, none⟩ = some (.int .u64 mk) := ⟨c3, c4⟩
                apply region_then
                case h1 =>
                  go_region_held3 (fun w' => w'.cell? ⟨B + 3, 3, none⟩ = some (.string (nm i)) ∧ w'.cell? ⟨B + 3, 4, none⟩ = some (.int .u64 mk)) (exact sA) (first | (go_at_call 4; refine (name_any i hi3 _).mono ?_; rintro e w' ⟨rfl, rfl⟩))
                  all_goals exact ⟨rfl, rfl, rfl⟩
                go_wp2_with fail
                go_roundw
                case rel => exact ⟨k + 1, d, ls, cv, mv, some i, mk, by omega, by go_num, rfl, rfl, U4.out.later (below_drewN (Below.refl _ w4) 1), fun j' hj' => Nat.le_succ_of_le (FEW.out j' hj'), STD.out⟩
                case measure => simp [intOf]; omega
            · have hst : S k = 0 ∨ (d i).stamp = 0 := by
                by_cases h : S k = 0
                · exact .inl h
                · exact .inr (Decidable.byContradiction fun h' => h0 ⟨h, h'⟩)
              have hlow : Q k ≤ mk := by
                by_cases h : mk < Q k
                · exact absurd ⟨.inr ⟨rfl, h⟩, hst⟩ ht
                · omega
              by_cases hz : S k = 0
              · as_aux_lemma =>
                  skip
                  have hge : decide ((0 : Int) ≤ ((i : Nat) : Int)) = true := decide_eq_true (by omega)
                  simp only [mdev]
                  obtain ⟨m0, m1, m2, m3, m4, m5, m6⟩ := U4.out.mcells hi3
                  obtain ⟨_, c3, c4, _⟩ := U4.out.rd.cells (Below.refl _ w4)
                  simp only [devName] at c3
                  rw [hz] at p2
                  have hle : decide (Q k ≤ mk) = true := decide_eq_true hlow
                  go_wp2_with fail
                  have sA : w4.drew.cell? ⟨B + 3, 3, none⟩ = some (.string (nm i)) ∧ w4.drew.cell? ⟨B + 3, 4, none⟩ = some (.int .u64 mk) := ⟨c3, c4⟩
                  apply region_then
                  case h1 =>
                    go_region_held3 (fun w' => w'.cell? ⟨B + 3, 3, none⟩ = some (.string (nm i)) ∧ w'.cell? ⟨B + 3, 4, none⟩ = some (.int .u64 mk)) (exact sA) (first | (go_at_call 4; refine (name_any i hi3 _).mono ?_; rintro e w' ⟨rfl, rfl⟩))
                    all_goals exact ⟨rfl, rfl, rfl⟩
                  go_wp2_with fail
                  go_roundw
                  case rel => exact ⟨k + 1, d, ls, cv, mv, some i, mk, by omega, by go_num, rfl, rfl, U4.out.later (below_drewN (Below.refl _ w4) 1), fun j' hj' => Nat.le_succ_of_le (FEW.out j' hj'), STD.out⟩
                  case measure => simp [intOf]; omega
              · as_aux_lemma =>
                  skip
                  have hge : decide ((0 : Int) ≤ ((i : Nat) : Int)) = true := decide_eq_true (by omega)
                  simp only [mdev]
                  obtain ⟨m0, m1, m2, m3, m4, m5, m6⟩ := U4.out.mcells hi3
                  obtain ⟨_, c3, c4, _⟩ := U4.out.rd.cells (Below.refl _ w4)
                  simp only [devName] at c3
                  have hS : (S k != 0) = true := bne_iff_ne.2 hz
                  have hT : (d i).stamp = 0 := hst.resolve_left hz
                  rw [hT] at m1
                  have hle : decide (Q k ≤ mk) = true := decide_eq_true hlow
                  go_wp2_with fail
                  have sA : w4.drew.cell? ⟨B + 3, 3, none⟩ = some (.string (nm i)) ∧ w4.drew.cell? ⟨B + 3, 4, none⟩ = some (.int .u64 mk) := ⟨c3, c4⟩
                  apply region_then
                  case h1 =>
                    go_region_held3 (fun w' => w'.cell? ⟨B + 3, 3, none⟩ = some (.string (nm i)) ∧ w'.cell? ⟨B + 3, 4, none⟩ = some (.int .u64 mk)) (exact sA) (first | (go_at_call 4; refine (name_any i hi3 _).mono ?_; rintro e w' ⟨rfl, rfl⟩))
                    all_goals exact ⟨rfl, rfl, rfl⟩
                  go_wp2_with fail
                  go_roundw
                  case rel => exact ⟨k + 1, d, ls, cv, mv, some i, mk, by omega, by go_num, rfl, rfl, U4.out.later (below_drewN (Below.refl _ w4) 1), fun j' hj' => Nat.le_succ_of_le (FEW.out j' hj'), STD.out⟩
                  case measure => simp [intOf]; omega
          · as_aux_lemma =>
              have hji : (((j : Nat) : Int) != ((i : Nat) : Int)) = true := bne_iff_ne.2 (by omega)
              have hge : decide ((0 : Int) ≤ ((j : Nat) : Int)) = true := decide_eq_true (by omega)
              simp only [mdev]
              obtain ⟨m0, m1, m2, m3, m4, m5, m6⟩ := U4.out.mcells hi3
              obtain ⟨_, c3, c4, _⟩ := U4.out.rd.cells (Below.refl _ w4)
              simp only [devName] at c3
              go_wp2_with fail
              have sA : w4.drew.cell? ⟨B + 3, 3, none⟩ = some (.string (nm j)) ∧ w4.drew.cell? ⟨B + 3, 4, none⟩ = some (.int .u64 mk) := ⟨c3, c4⟩
              apply region_then
              case h1 =>
                go_region_held3 (fun w' => w'.cell? ⟨B + 3, 3, none⟩ = some (.string (nm j)) ∧ w'.cell? ⟨B + 3, 4, none⟩ = some (.int .u64 mk)) (exact sA) (first | (go_at_call 4; refine (name_any j hj3 _).mono ?_; rintro e w' ⟨rfl, rfl⟩))
                all_goals exact ⟨rfl, rfl, rfl⟩
              go_wp2_with fail
              go_roundw
              case rel => exact ⟨k + 1, d, ls, cv, mv, some j, mk, by omega, by go_num, rfl, rfl, U4.out.later (below_drewN (Below.refl _ w4) 1), fun j' hj' => Nat.le_succ_of_le (FEW.out j' hj'), STD.out⟩
              case measure => simp [intOf]; omega
    · as_aux_lemma =>
        obtain rfl : n = k := by omega
        clear HST HF HE STD hlt hk
        go_wp2_with fail
        go_loopw [19, 20, 21] (fun xc xl xi wr2 => ∃ j : Nat, j ≤ 3 ∧ xi = .int .i64 j ∧ xc = .int .i64 (cnt (fun i => (d i).present) j : Nat) ∧ xl = .int .i64 (cnt ls j : Nat) ∧ Duo W wr2 B true ch d ls cv dn mk (mRow d ls ch mv) mv (fun j => (d j).marks)) (fun _ _ xi _ => 3 - (intOf xi).toNat)
        case atStart => exact ⟨0, by omega, rfl, rfl, rfl, U.out⟩
        case round =>
          obtain ⟨j, hj, rfl, rfl, rfl, duo2⟩ := hrel
          clear U
          have V := hide duo2
          clear duo2
          by_cases hj3 : j < 3
          · as_aux_lemma =>
              have hj0 : (0 : Int) ≤ (j : Int) := Int.natCast_nonneg _
              have hj1 : (j : Int) < 3 := by omega
              go_wp2_with fail
              refine (name_any j hj3 _).mono ?_
              rintro e w1 ⟨rfl, rfl⟩
              have VA := fun o => V.out.later ((Below.refl _ w1).alloc (Nat.le_refl _) o)
              have m0 := fun o => ((VA o).mcells hj3).1
              have c16 := (V.out.rd.cells (Below.refl _ w1)).2.2.2.1
              have LK := V.out.rd.covers.look hj3 Ybaf.underlying24 (zero65_is w1)
              obtain ⟨hd19, hhd⟩ : ∃ hd19, headCells (hseq (d j)) (hdig (d j)) = hd19 := ⟨_, rfl⟩
              have l17 : hd19.length = 17 := by rw [← hhd]; exact head_len _ _
              simp only [cov, hhd] at LK
              generalize hcs : hd19 ++ [Value.int .u64 (d j).stamp, cv j] = cs at LK
              have l19 : cs.length = 19 := by rw [← hcs, List.length_append, l17]; rfl
              have o19 : ∀ v ∈ cs, v.oneCell' = true := by
                intro v hv
                rw [← hcs, ← hhd] at hv
                rcases List.mem_append.1 hv with h | h
                · exact head_one _ _ v h
                · simp only [List.mem_cons, List.not_mem_nil, or_false] at h
                  rcases h with rfl | rfl
                  · rfl
                  · exact slice_one (V.out.rd.own j hj3)
              have ST := fun (t : TypeId) => store_new w1 zero65.toList cs t (by rw [l19]; rfl) o19 w1.heap.size rfl
              simp only [zero65] at ST
              have HC := hide hcs
              have HH := hide hhd
              clear hcs hhd o19 l17
              cases hp : (d j).present
              · as_aux_lemma =>
                  have m5 := fun o => ((VA o).mcells hj3).2.2.2.2.2.1
                  have m6 := fun o => ((VA o).mcells hj3).2.2.2.2.2.2
                  have c19 := fun o => ((VA o).rd.cells (Below.refl _ _)).2.2.2.2.2.2
                  have LK2 := fun o => (VA o).rd.lines.look hj3 (e := 2) Ybaf.underlying25 rfl
                  have VH := hide VA
                  clear VA
                  simp only [hp] at m0 LK
                  cases hl : ls j
                  · as_aux_lemma =>
                      simp only [hl, Bool.false_eq_true, if_false] at m5 m6 LK2
                      go_wp2_with fail
                      go_roundw
                      case rel => exact ⟨j + 1, by omega, by go_num, by rw [cnt_no (h := fun i => (d i).present) hp], by rw [cnt_no hl], VH.out _⟩
                      case measure => simp [intOf]; omega
                  · as_aux_lemma =>
                      simp only [hl, if_true] at m5 m6 LK2
                      have hcl := cnt_le ls j
                      go_wp2_with fail
                      go_roundw
                      case rel => exact ⟨j + 1, by omega, by go_num, by rw [cnt_no (h := fun i => (d i).present) hp], by rw [cnt_yes hl]; go_num, VH.out _⟩
                      case measure => simp [intOf]; omega
              · as_aux_lemma =>
                  have VH := hide VA
                  clear VA
                  simp only [hp] at m0 LK
                  have hcl := cnt_le (fun i => (d i).present) j
                  go_wp2_with fail
                  generalize hW2 : World.alloc _ _ = W2
                  have U2 := hide (show Duo W W2 B true ch d ls cv dn mk (mRow d ls ch mv) mv (fun j => (d j).marks) by rw [← hW2]; exact VH.out _)
                  have D2 := hide (show W2.heap[w1.heap.size]? = some (.cells (boxRow (d j) (cv j)) 65 (0, 0)) by rw [← hW2, boxRow, HH.out, HC.out]; exact heap_alloc_new w1 _)
                  clear hW2 LK ST m0 c16 V VH HC HH l19
                  obtain ⟨m0, m1, m2, m3, m4, m5, m6⟩ := U2.out.mcells hj3
                  obtain ⟨b0, b1, b17, b18⟩ := box_all D2.out
                  clear m0 m2 m3 m4 m5 m6 b0 b1 b18
                  go_quiet (fail)
                  generalize hW3 : World.drewN _ _ = W3
                  have hb3 : Below W2.heap.size W2 W3 := by rw [← hW3]; exact below_drewN (Below.refl _ _) _
                  have U3 := hide (U2.out.later hb3)
                  have D3 := hide ((hb3.block _ (lt_of_block D2.out)).trans D2.out)
                  clear hW3 hb3 m1 b17 U2 D2
                  obtain ⟨m0, m1, m2, m3, m4, m5, m6⟩ := U3.out.mcells hj3
                  obtain ⟨b0, b1, b17, b18⟩ := box_all D3.out
                  clear m0 m4 m5 m6 b18
                  by_cases hs : (d j).stamp = 0
                  · as_aux_lemma =>
                      rw [hs] at m1
                      rw [hseq_zero hs] at b0
                      have HL := load27_at W3 w1.heap.size 1 _ b1 (sixteen_len _)
                      rw [hdig_zero hs] at HL
                      have NE := fun x y => neq27_zero x y W3
                      obtain ⟨x16, hx16⟩ : ∃ x16, (sixteen 0).toArray = x16 := ⟨_, rfl⟩
                      rw [hx16] at HL
                      simp only [hx16] at NE
                      clear hs hx16 b1 b17 m2 m3
                      go_wp2_with fail
                      clear HL NE b0 m1
                      obtain ⟨p, cap, hcv⟩ : ∃ p cap, cv j = .slice p (d j).marks.length cap := slice_form (U3.out.rd.own j hj3)
                      obtain ⟨p', cap', hmv⟩ : ∃ p' cap', mv j = .slice p' (d j).marks.length cap' := slice_form (U3.out.own j hj3)
                      obtain ⟨m0, m1, m2, m3, m4, m5, m6⟩ := U3.out.mcells hj3
                      obtain ⟨b0, b1, b17, b18⟩ := box_all D3.out
                      clear m0 m1 m2 m3 m5 m6 b0 b1 b17
                      rw [hcv] at b18
                      rw [hmv] at m4
                      have HCV := hide hcv
                      clear hcv hmv
                      go_quiet (fail)
                      generalize hW4 : World.drewN _ _ = W4
                      have U4 := hide (U3.out.later (w' := W4) (by rw [← hW4]; exact below_drewN (Below.refl _ _) _))
                      have D4 := hide (show W4.heap[w1.heap.size]? = some (.cells (boxRow (d j) (cv j)) 65 (0, 0)) by rw [← hW4]; exact D3.out)
                      clear hW4 m4 b18 U3 D3
                      go_wp2_with fail
                      go_loopw [25] (fun xk wr3 => ∃ k : Nat, k ≤ (d j).marks.length ∧ xk = .int .i64 k ∧ Duo W wr3 B true ch d ls cv dn mk (mRow d ls ch mv) mv (fun j => (d j).marks) ∧ wr3.heap[w1.heap.size]? = some (.cells (boxRow (d j) (cv j)) 65 (0, 0))) (fun xk _ => (d j).marks.length - (intOf xk).toNat)
                      case atStart => exact ⟨0, Nat.zero_le _, rfl, U4.out, D4.out⟩
                      case round =>
                        obtain ⟨k, hk, rfl, duo3, box3⟩ := hrel
                        have U5 := hide duo3
                        have D5 := hide box3
                        clear duo3 box3 U4 D4
                        have hfew := FEW.out j hj3
                        by_cases hk3 : k < (d j).marks.length
                        · as_aux_lemma =>
                            obtain ⟨q, x, g, cap, g', cap', hcv, hmv, e1, e2, e3, e4⟩ := U5.out.markAt hj3 hk3
                            have b18 := (box_all D5.out).2.2.2
                            have m4 := (U5.out.mcells hj3).2.2.2.2.1
                            rw [hcv] at b18
                            rw [hmv] at m4
                            have hg := World.block_lt_of_cell? _ _ e1
                            have hg' := World.block_lt_of_cell? _ _ e3
                            clear hcv hmv HCV
                            have hk0 : (0 : Int) ≤ (k : Int) := Int.natCast_nonneg _
                            have hk1 : (k : Int) < ((d j).marks.length : Int) := by omega
                            go_wp2_with fail
                            obtain ⟨x16, hx16⟩ : ∃ x16, sixteen x = x16 := ⟨_, rfl⟩
                            obtain ⟨c16, hc16⟩ : ∃ c16, Array.replicate 16 (Value.int .u8 x) = c16 := ⟨_, rfl⟩
                            have l16 : x16.length = 16 := by rw [← hx16]; exact sixteen_len _
                            have hu27 := Ybaf.underlying27
                            have hi27 := size27 l16
                            have NE : ∀ x y w, heldNeq Ybaf.prog x y (.agg x16.toArray) (.agg c16) w = .ok (.bool false) w := fun y z w => by rw [← hx16, ← hc16]; exact neq27_same y z _ w
                            have CH := fun w => chain_any x w
                            rw [hx16] at e2
                            simp only [hc16] at CH
                            have hb0 : Below wr.heap.size wr wr.drew := below_drewN (Below.refl _ _) 1
                            have SK := hide (fun (w' : World) (hb : Below wr.heap.size wr w') => (show w'.cell? ⟨w1.heap.size, 18, none⟩ = some (.slice (some ⟨g, 0, none⟩) (d j).marks.length cap) ∧ w'.cell? ⟨g, k * 17, none⟩ = some (.int .u64 q) ∧ w'.cell? ⟨B + 4, j * 7 + 4, none⟩ = some (.slice (some ⟨g', 0, none⟩) (d j).marks.length cap') ∧ w'.cell? ⟨g', k * 2, none⟩ = some (.int .u64 q) ∧ w'.cell? ⟨g', k * 2 + 1, none⟩ = some (.int .u8 x) ∧ w'.rangeAt g (k * 17 + 1) x16 from
                              ⟨(World.cell?_of_block (hb.block _ (lt_of_block D5.out))).trans b18, (World.cell?_of_block (hb.block _ hg)).trans e1, (World.cell?_of_block (hb.block _ (lt_of_block U5.out.row))).trans m4, (World.cell?_of_block (hb.block _ hg')).trans e3, (World.cell?_of_block (hb.block _ hg')).trans e4, range_later e2 hb hg⟩))
                            have HB0 := hide hb0
                            clear hx16 hc16 e1 e2 e3 e4 b18 m4 hb0 l16 hg hg'
                            apply region_some (R := fun w' => Below wr.heap.size wr w')
                            case h1 =>
                              go_region_held3 (fun w' => w'.cell? ⟨w1.heap.size, 18, none⟩ = some (.slice (some ⟨g, 0, none⟩) (d j).marks.length cap) ∧ w'.cell? ⟨g, k * 17, none⟩ = some (.int .u64 q) ∧ w'.cell? ⟨B + 4, j * 7 + 4, none⟩ = some (.slice (some ⟨g', 0, none⟩) (d j).marks.length cap') ∧ w'.cell? ⟨g', k * 2, none⟩ = some (.int .u64 q) ∧ w'.cell? ⟨g', k * 2 + 1, none⟩ = some (.int .u8 x) ∧ w'.rangeAt g (k * 17 + 1) x16) (first | exact SK.out _ HB0.out | exact SK.out _ (HB0.out.trans HB1.out)) (first | (go_at_call 7; refine (CH _).mono ?_; rintro e w' ⟨rfl, hb'⟩; have HB1 := hide hb'; clear hb'))
                              all_goals exact ⟨rfl, rfl, HB0.out.trans HB1.out⟩
                            intro w6 hb6
                            have U6 := hide (U5.out.later hb6)
                            have D6 := hide ((hb6.block _ (lt_of_block D5.out)).trans D5.out)
                            clear U5 D5 hb6 SK HB0 CH NE hi27 hu27
                            go_wp2_with fail
                            go_roundw
                            case rel => exact ⟨k + 1, hk3, by go_num, U6.out, D6.out⟩
                            case measure => simp [intOf]; omega
                        · obtain rfl : k = (d j).marks.length := by omega
                          have b18 := (box_all D5.out).2.2.2
                          rw [HCV.out] at b18
                          obtain ⟨m0, m1, m2, m3, m4, m5, m6⟩ := U5.out.mcells hj3
                          have c19 := (U5.out.rd.cells (Below.refl _ _)).2.2.2.2.2.2
                          have LK2 := U5.out.rd.lines.look hj3 (e := 2) Ybaf.underlying25 rfl
                          clear m0 m1 m2 m3 m4
                          cases hl : ls j
                          · as_aux_lemma =>
                              simp only [hl, Bool.false_eq_true, if_false] at m5 m6 LK2
                              go_wp2_with fail
                              go_roundw
                              case rel => exact ⟨j + 1, by omega, by go_num, by rw [cnt_yes (h := fun i => (d i).present) hp]; go_num, by rw [cnt_no hl], U5.out⟩
                              case measure => simp [intOf]; omega
                          · as_aux_lemma =>
                              simp only [hl, if_true] at m5 m6 LK2
                              have hcl := cnt_le ls j
                              go_wp2_with fail
                              go_roundw
                              case rel => exact ⟨j + 1, by omega, by go_num, by rw [cnt_yes (h := fun i => (d i).present) hp]; go_num, by rw [cnt_yes hl]; go_num, U5.out⟩
                              case measure => simp [intOf]; omega
                  · as_aux_lemma =>
                      have hs' : ((d j).stamp != 0) = true := bne_iff_ne.2 hs
                      rw [hseq_not hs] at b0
                      rw [hdig_not hs] at b1
                      clear hs
                      go_wp2_with fail
                      clear b17 m1 hs'
                      obtain ⟨x16, hx16⟩ : ∃ x16, sixteen (d j).dig = x16 := ⟨_, rfl⟩
                      obtain ⟨c16, hc16⟩ : ∃ c16, Array.replicate 16 (Value.int .u8 (d j).dig) = c16 := ⟨_, rfl⟩
                      have l16 : x16.length = 16 := by rw [← hx16]; exact sixteen_len _
                      have hu27 := Ybaf.underlying27
                      have hi27 := size27 l16
                      have NE : ∀ x y w, heldNeq Ybaf.prog x y (.agg x16.toArray) (.agg c16) w = .ok (.bool false) w := fun x y w => by rw [← hx16, ← hc16]; exact neq27_same x y _ w
                      have CH := fun w => chain_any (d j).dig w
                      rw [hx16] at b1
                      simp only [hc16] at CH
                      have hb0 : Below W3.heap.size W3 W3.drew := below_drewN (Below.refl _ _) 1
                      have SK := hide (fun (w' : World) (hb : Below W3.heap.size W3 w') => (show w'.cell? ⟨w1.heap.size, 0, none⟩ = some (.int .u64 (d j).seq) ∧ w'.cell? ⟨B + 4, j * 7 + 2, none⟩ = some (.int .u64 (d j).seq) ∧ w'.cell? ⟨B + 4, j * 7 + 3, none⟩ = some (.int .u8 (d j).dig) ∧ w'.rangeAt w1.heap.size 1 x16 from
                        ⟨(World.cell?_of_block (hb.block _ (lt_of_block D3.out))).trans b0, (World.cell?_of_block (hb.block _ (lt_of_block U3.out.row))).trans m2, (World.cell?_of_block (hb.block _ (lt_of_block U3.out.row))).trans m3, range_later b1 hb (lt_of_block D3.out)⟩))
                      have HB0 := hide hb0
                      clear hx16 hc16 b0 b1 m2 m3 hb0 l16
                      apply region_some (R := fun w' => Below W3.heap.size W3 w')
                      case h1 =>
                        go_region_held3 (fun w' => w'.cell? ⟨w1.heap.size, 0, none⟩ = some (.int .u64 (d j).seq) ∧ w'.cell? ⟨B + 4, j * 7 + 2, none⟩ = some (.int .u64 (d j).seq) ∧ w'.cell? ⟨B + 4, j * 7 + 3, none⟩ = some (.int .u8 (d j).dig) ∧ w'.rangeAt w1.heap.size 1 x16) (first | exact SK.out _ HB0.out | exact SK.out _ (HB0.out.trans HB1.out)) (first | (go_at_call 7; refine (CH _).mono ?_; rintro e w' ⟨rfl, hb'⟩; have HB1 := hide hb'; clear hb'))
                        all_goals exact ⟨rfl, rfl, HB0.out.trans HB1.out⟩
                      intro w3 hb3
                      have U3' := hide (U3.out.later hb3)
                      have D3' := hide ((hb3.block _ (lt_of_block D3.out)).trans D3.out)
                      clear U3 D3 hb3 SK HB0 CH NE hi27 hu27
                      go_wp2_with fail
                      have U3 := U3'
                      have D3 := D3'
                      clear U3' D3'
                      obtain ⟨p, cap, hcv⟩ : ∃ p cap, cv j = .slice p (d j).marks.length cap := slice_form (U3.out.rd.own j hj3)
                      obtain ⟨p', cap', hmv⟩ : ∃ p' cap', mv j = .slice p' (d j).marks.length cap' := slice_form (U3.out.own j hj3)
                      obtain ⟨m0, m1, m2, m3, m4, m5, m6⟩ := U3.out.mcells hj3
                      obtain ⟨b0, b1, b17, b18⟩ := box_all D3.out
                      clear m0 m1 m2 m3 m5 m6 b0 b1 b17
                      rw [hcv] at b18
                      rw [hmv] at m4
                      have HCV := hide hcv
                      clear hcv hmv
                      go_quiet (fail)
                      generalize hW4 : World.drewN _ _ = W4
                      have U4 := hide (U3.out.later (w' := W4) (by rw [← hW4]; exact below_drewN (Below.refl _ _) _))
                      have D4 := hide (show W4.heap[w1.heap.size]? = some (.cells (boxRow (d j) (cv j)) 65 (0, 0)) by rw [← hW4]; exact D3.out)
                      clear hW4 m4 b18 U3 D3
                      go_wp2_with fail
                      go_loopw [25] (fun xk wr3 => ∃ k : Nat, k ≤ (d j).marks.length ∧ xk = .int .i64 k ∧ Duo W wr3 B true ch d ls cv dn mk (mRow d ls ch mv) mv (fun j => (d j).marks) ∧ wr3.heap[w1.heap.size]? = some (.cells (boxRow (d j) (cv j)) 65 (0, 0))) (fun xk _ => (d j).marks.length - (intOf xk).toNat)
                      case atStart => exact ⟨0, Nat.zero_le _, rfl, U4.out, D4.out⟩
                      case round =>
                        obtain ⟨k, hk, rfl, duo3, box3⟩ := hrel
                        have U5 := hide duo3
                        have D5 := hide box3
                        clear duo3 box3 U4 D4
                        have hfew := FEW.out j hj3
                        by_cases hk3 : k < (d j).marks.length
                        · as_aux_lemma =>
                            obtain ⟨q, x, g, cap, g', cap', hcv, hmv, e1, e2, e3, e4⟩ := U5.out.markAt hj3 hk3
                            have b18 := (box_all D5.out).2.2.2
                            have m4 := (U5.out.mcells hj3).2.2.2.2.1
                            rw [hcv] at b18
                            rw [hmv] at m4
                            have hg := World.block_lt_of_cell? _ _ e1
                            have hg' := World.block_lt_of_cell? _ _ e3
                            clear hcv hmv HCV
                            have hk0 : (0 : Int) ≤ (k : Int) := Int.natCast_nonneg _
                            have hk1 : (k : Int) < ((d j).marks.length : Int) := by omega
                            go_wp2_with fail
                            obtain ⟨x16, hx16⟩ : ∃ x16, sixteen x = x16 := ⟨_, rfl⟩
                            obtain ⟨c16, hc16⟩ : ∃ c16, Array.replicate 16 (Value.int .u8 x) = c16 := ⟨_, rfl⟩
                            have l16 : x16.length = 16 := by rw [← hx16]; exact sixteen_len _
                            have hu27 := Ybaf.underlying27
                            have hi27 := size27 l16
                            have NE : ∀ x y w, heldNeq Ybaf.prog x y (.agg x16.toArray) (.agg c16) w = .ok (.bool false) w := fun y z w => by rw [← hx16, ← hc16]; exact neq27_same y z _ w
                            have CH := fun w => chain_any x w
                            rw [hx16] at e2
                            simp only [hc16] at CH
                            have hb0 : Below wr.heap.size wr wr.drew := below_drewN (Below.refl _ _) 1
                            have SK := hide (fun (w' : World) (hb : Below wr.heap.size wr w') => (show w'.cell? ⟨w1.heap.size, 18, none⟩ = some (.slice (some ⟨g, 0, none⟩) (d j).marks.length cap) ∧ w'.cell? ⟨g, k * 17, none⟩ = some (.int .u64 q) ∧ w'.cell? ⟨B + 4, j * 7 + 4, none⟩ = some (.slice (some ⟨g', 0, none⟩) (d j).marks.length cap') ∧ w'.cell? ⟨g', k * 2, none⟩ = some (.int .u64 q) ∧ w'.cell? ⟨g', k * 2 + 1, none⟩ = some (.int .u8 x) ∧ w'.rangeAt g (k * 17 + 1) x16 from
                              ⟨(World.cell?_of_block (hb.block _ (lt_of_block D5.out))).trans b18, (World.cell?_of_block (hb.block _ hg)).trans e1, (World.cell?_of_block (hb.block _ (lt_of_block U5.out.row))).trans m4, (World.cell?_of_block (hb.block _ hg')).trans e3, (World.cell?_of_block (hb.block _ hg')).trans e4, range_later e2 hb hg⟩))
                            have HB0 := hide hb0
                            clear hx16 hc16 e1 e2 e3 e4 b18 m4 hb0 l16 hg hg'
                            apply region_some (R := fun w' => Below wr.heap.size wr w')
                            case h1 =>
                              go_region_held3 (fun w' => w'.cell? ⟨w1.heap.size, 18, none⟩ = some (.slice (some ⟨g, 0, none⟩) (d j).marks.length cap) ∧ w'.cell? ⟨g, k * 17, none⟩ = some (.int .u64 q) ∧ w'.cell? ⟨B + 4, j * 7 + 4, none⟩ = some (.slice (some ⟨g', 0, none⟩) (d j).marks.length cap') ∧ w'.cell? ⟨g', k * 2, none⟩ = some (.int .u64 q) ∧ w'.cell? ⟨g', k * 2 + 1, none⟩ = some (.int .u8 x) ∧ w'.rangeAt g (k * 17 + 1) x16) (first | exact SK.out _ HB0.out | exact SK.out _ (HB0.out.trans HB1.out)) (first | (go_at_call 7; refine (CH _).mono ?_; rintro e w' ⟨rfl, hb'⟩; have HB1 := hide hb'; clear hb'))
                              all_goals exact ⟨rfl, rfl, HB0.out.trans HB1.out⟩
                            intro w6 hb6
                            have U6 := hide (U5.out.later hb6)
                            have D6 := hide ((hb6.block _ (lt_of_block D5.out)).trans D5.out)
                            clear U5 D5 hb6 SK HB0 CH NE hi27 hu27
                            go_wp2_with fail
                            go_roundw
                            case rel => exact ⟨k + 1, hk3, by go_num, U6.out, D6.out⟩
                            case measure => simp [intOf]; omega
                        · obtain rfl : k = (d j).marks.length := by omega
                          have b18 := (box_all D5.out).2.2.2
                          rw [HCV.out] at b18
                          obtain ⟨m0, m1, m2, m3, m4, m5, m6⟩ := U5.out.mcells hj3
                          have c19 := (U5.out.rd.cells (Below.refl _ _)).2.2.2.2.2.2
                          have LK2 := U5.out.rd.lines.look hj3 (e := 2) Ybaf.underlying25 rfl
                          clear m0 m1 m2 m3 m4
                          cases hl : ls j
                          · as_aux_lemma =>
                              simp only [hl, Bool.false_eq_true, if_false] at m5 m6 LK2
                              go_wp2_with fail
                              go_roundw
                              case rel => exact ⟨j + 1, by omega, by go_num, by rw [cnt_yes (h := fun i => (d i).present) hp]; go_num, by rw [cnt_no hl], U5.out⟩
                              case measure => simp [intOf]; omega
                          · as_aux_lemma =>
                              simp only [hl, if_true] at m5 m6 LK2
                              have hcl := cnt_le ls j
                              go_wp2_with fail
                              go_roundw
                              case rel => exact ⟨j + 1, by omega, by go_num, by rw [cnt_yes (h := fun i => (d i).present) hp]; go_num, by rw [cnt_yes hl]; go_num, U5.out⟩
                              case measure => simp [intOf]; omega
          · as_aux_lemma =>
              obtain rfl : j = 3 := by omega
              have c16 := (V.out.rd.cells (Below.refl _ _)).2.2.2.1
              have c19 := (V.out.rd.cells (Below.refl _ _)).2.2.2.2.2.2
              have L1 := V.out.rd.covers.len Ybaf.underlying24
              have L2 := V.out.rd.lines.len Ybaf.underlying25
              simp only [cnt_three ls, cnt_three fun i => (d i).present] at L1 L2
              generalize cnt ls 3 = nl at L2
              generalize cnt (fun i => (d i).present) 3 = nc at L1
              go_wp2_with fail
              go_ret
              exact ⟨rfl, by have := V.out.below; rwa [← V.out.top] at this⟩
end Go.Proofs.YbulkantuFmt
