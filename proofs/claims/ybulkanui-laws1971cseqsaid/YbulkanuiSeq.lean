/-
  DERIVED. LawS1971CSeq: the walk.
-/
import Derived.Test.YbulkanuiTake
namespace Go.Proofs.Ybulkanui
open Go.RowKit

/-- The first lines, one behind another. -/
def cat (Z : Nat → List Int) : Nat → List Int
  | 0 => []
  | n + 1 => cat Z n ++ Z n

/-- The lines that came in: element i is a slice of the bytes 'Z i'. -/
structure Lines (w : World) (a : Option Addr) (n : Nat) (A : Nat → Option Addr) (C : Nat → Nat) (Z : Nat → List Int) : Prop where
  cell : ∀ i, i < n → ∃ b off, a = some ⟨b, off, none⟩ ∧ w.cell? ⟨b, off + i, none⟩ = some (.slice (A i) (Z i).length (C i)) ∧ b < w.heap.size
  bytes : ∀ i, i < n → IsBytes w (A i) (Z i).length (C i) (Z i)
  fits : ∀ i, i < n → (Z i).length ≤ 9223372036854775807

theorem Lines.later {w w' : World} {a : Option Addr} {n : Nat} {A : Nat → Option Addr} {C : Nat → Nat} {Z : Nat → List Int} (h : Lines w a n A C Z) (hb : Below w.heap.size w w') : Lines w' a n A C Z := by
  refine ⟨fun i hi => ?_, fun i hi => (h.bytes i hi).later hb, h.fits⟩
  obtain ⟨b, off, rfl, hc, hl⟩ := h.cell i hi
  exact ⟨b, off, rfl, by rw [hb.cell (p := ⟨b, off + i, none⟩) hl]; exact hc, Nat.lt_of_lt_of_le hl hb.size⟩

theorem cat_le (Z : Nat → List Int) (n : Nat) (h : ∀ i, i < n → (Z i).length ≤ 1024) : (cat Z n).length ≤ 1024 * n := by
  induction n with
  | zero => simp [cat]
  | succ n ih =>
    have := ih fun i hi => h i (by omega)
    have := h n (by omega)
    simp only [cat, List.length_append]
    omega
theorem cat_mono (Z : Nat → List Int) {i n : Nat} (h : i ≤ n) : (cat Z i).length ≤ (cat Z n).length := by
  induction n with
  | zero => obtain rfl : i = 0 := by omega
            exact Nat.le_refl _
  | succ n ih =>
    by_cases hi : i = n + 1
    · rw [hi]; exact Nat.le_refl _
    · have := ih (by omega)
      simp only [cat, List.length_append]
      omega
/-- Byte j of line i lies behind the lines before it. -/
theorem cat_get (Z : Nat → List Int) {i n j : Nat} (h : i < n) (hj : j < (Z i).length) : (cat Z n).getD ((cat Z i).length + j) 0 = (Z i).getD j 0 := by
  induction n with
  | zero => omega
  | succ n ih =>
    by_cases hi : i = n
    · subst hi; exact getD_app_right _ _ _
    · have hm : (cat Z (i + 1)).length ≤ (cat Z n).length := cat_mono Z (by omega)
      simp only [cat, List.length_append] at hm
      show (cat Z n ++ Z n).getD _ 0 = _
      rw [getD_app_left _ _ _ (by omega)]
      exact ih (by omega)

/-- The queue between two takes. -/
structure Sits (w wr : World) (b : Nat) (v : Value) (zs : List Int) (held taken : Int) : Prop where
  row : wr.heap[b]? = some (.cells (qRow ⟨#[120]⟩ 100 v (wrap64 (held + zs.length)) 0 (IntKind.u64.wrap (taken + zs.length)) 0) 38 (0, 0))
  own : wr.ownsRow w.heap.size 5 1 v zs.length (zs.map (Value.int .u8))
  off : v.ownBlock ≠ some b
  below : Below w.heap.size w wr
  base : w.heap.size ≤ b

theorem wrap64_twice (a : Int) (b c : Nat) : wrap64 (wrap64 (a + (b : Int)) + (c : Int)) = wrap64 (a + ((b + c : Nat) : Int)) := by unfold wrap64; omega
theorem wrapu_twice (a : Int) (b c : Nat) : IntKind.u64.wrap (IntKind.u64.wrap (a + (b : Int)) + (c : Int)) = IntKind.u64.wrap (a + ((b + c : Nat) : Int)) := by
  simp [IntKind.wrap, IntKind.bits, IntKind.signed, Int.add_assoc]

theorem Sits.set {w wr : World} {b : Nat} {v : Value} {zs : List Int} {held taken : Int} (S : Sits w wr b v zs held taken) (u : Value) : Below w.heap.size w (wr.setCell ⟨b, 7, none⟩ u) := S.below.setCell (p := ⟨b, 7, none⟩) S.base u

/-- What 'take' asks behind the store of 'dropped' and the clone. -/
theorem Sits.asks {w wr w2 : World} {b : Nat} {v : Value} {zs z : List Int} {held taken d : Int} {ao : Option Addr} {c : Nat} (S : Sits w wr b v zs held taken) (C : Cloned (wr.setCell ⟨b, 7, none⟩ (.int .i64 d)) w2 ao z.length c z) :
    w2.heap[b]? = some (.cells (qRow ⟨#[120]⟩ 100 v (wrap64 (held + zs.length)) d (IntKind.u64.wrap (taken + zs.length)) 0) 38 (0, 0)) ∧ w2.ownsRow w.heap.size 5 1 v zs.length (zs.map (Value.int .u8)) ∧ (ao = none → z.length = 0 ∧ c = 0) ∧
    (∀ ad, ao = some ad → ∀ j u, (z.map (Value.int .u8))[j]? = some u → w2.cell? (ad.add j) = some u) ∧ w.heap.size ≤ w2.heap.size ∧ Below w.heap.size w w2 := by
  have hblt : b < wr.heap.size := lt_of_block S.row
  have hsz : (wr.setCell ⟨b, 7, none⟩ (.int .i64 d)).heap.size = wr.heap.size := by simp [World.setCell]
  have s2 := C.size
  have g12 : (wr.setCell ⟨b, 7, none⟩ (.int .i64 d)).grownBy w2 none := ⟨C.below.os, C.below.tape, C.below.output, s2, fun k hk _ => C.below.block k hk⟩
  refine ⟨?_, (ownsRow_setCell_other S.own S.off _).kept g12 (by cases v.ownBlock <;> simp), ?_, ?_, by have := S.below.size; omega, (S.set (.int .i64 d)).trans ?_⟩
  · rw [C.below.block b (by omega)]
    exact setCell_row S.row _
  · intro e
    rcases C.way with ⟨_, h, h', _⟩ | ⟨h, _, _⟩
    · exact ⟨h, h'⟩
    · rw [e] at h; cases h
  · intro ad had j u hu
    obtain ⟨rfl, hb⟩ := C.cell had
    rw [Addr.add_lit, Nat.zero_add, cell_of_row w2 _ j _ 5 (0, 0) hb]
    simpa using hu
  · exact ⟨C.below.os, C.below.tape, C.below.output, s2, fun k hk => C.below.block k (by have := S.below.size; omega)⟩

/-- .. and what stands behind it. -/
theorem Sits.next {w wr w2 w3 : World} {b : Nat} {v : Value} {zs z : List Int} {held taken d : Int} {ao : Option Addr} {c : Nat} (S : Sits w wr b v zs held taken) (C : Cloned (wr.setCell ⟨b, 7, none⟩ (.int .i64 d)) w2 ao z.length c z)
    (T : Took w2 w3 w.heap.size b v (zs.length + z.length) (zs.map (Value.int .u8) ++ z.map (Value.int .u8)) ⟨#[120]⟩ 100 (wrap64 (wrap64 (held + zs.length) + z.length)) (IntKind.u64.wrap (IntKind.u64.wrap (taken + zs.length) + z.length)) 0) :
    ∃ v', Sits w w3 b v' (zs ++ z) held taken := by
  obtain ⟨v', ho, hr, hv⟩ := T.own
  obtain ⟨hrow, _, _, _, hs, hB⟩ := S.asks C
  have hblt : b < w2.heap.size := lt_of_block hrow
  refine ⟨v', ?_, ?_, ?_, ?_, S.base⟩
  · rw [hr, wrap64_twice, wrapu_twice, List.length_append]
  · rw [List.length_append, List.map_append]; exact ho
  · rcases hv with h | h
    · rw [h]; exact S.off
    · rw [h]; simp; omega
  · refine hB.trans ⟨T.os, T.tape, T.output, T.size, fun k hk => T.block k (by omega) (by have := S.base; omega) (fun e => ?_)⟩
    rcases S.own.2 with ⟨hv0, _⟩ | ⟨g, cap, _, hv0, hg, _⟩
    · rw [hv0] at e; simp [Value.ownBlock] at e
    · rw [hv0] at e; simp [Value.ownBlock] at e; omega

theorem pend_cell {w wr : World} {b n c j : Nat} {ao : Option Addr} {zs : List Int} {held taken : Int} (S : Sits w wr b (.slice ao n c) zs held taken) (hj : j < zs.length) : ∃ g, ao = some ⟨g, 0, none⟩ ∧ wr.cell? ⟨g, j, none⟩ = some (.int .u8 (zs.getD j 0)) := by
  have hown := S.own
  rcases hown.2 with ⟨_, h⟩ | ⟨g, cap, cur, hv, _⟩
  · omega
  · simp only [Value.slice.injEq] at hv
    obtain ⟨rfl, rfl, rfl⟩ := hv
    refine ⟨g, rfl, ?_⟩
    have := hown.cells (g := g) rfl j (.int .u8 (zs.getD j 0)) (by rw [List.getElem?_map, List.getD_eq_getElem?_getD, List.getElem?_eq_getElem hj]; rfl)
    rwa [Addr.add_lit, Nat.zero_add] at this

theorem sits_new (w : World) (held taken : Int) (hh : wrap64 held = held) (ht : IntKind.u64.wrap taken = taken) : Sits w (w.alloc (.cells (qRow ⟨#[120]⟩ 100 (.slice none 0 0) held 0 taken 0) 38)) w.heap.size (.slice none 0 0) [] held taken := by
  refine ⟨?_, World.ownsRow_nil _ _ _ _, by simp [Value.ownBlock], (Below.refl _ w).alloc (Nat.le_refl _) _, Nat.le_refl _⟩
  rw [List.length_nil, show held + ((0 : Nat) : Int) = held from Int.add_zero _, show taken + ((0 : Nat) : Int) = taken from Int.add_zero _, hh, ht]
  exact heap_alloc_new w _

set_option maxRecDepth 100000 in
theorem seq_long (a : Option Addr) (n c : Nat) (held taken : Int) (w : World) (hn : 256 < n) (hm : n ≤ 9223372036854775807) : Calls Yba.prog 4 #[.slice a n c, .int .i64 held, .int .u64 taken] w fun e w' => e = .returned (.bool true) ∧ Below w.heap.size w w' := by
  go_enter Yba.func4, Yba.ntmps4
  go_wp2
  go_ret
  exact ⟨rfl, Below.refl _ _⟩

set_option maxRecDepth 100000 in
set_option maxHeartbeats 1000000 in
theorem seq_main (a : Option Addr) (n c : Nat) (A : Nat → Option Addr) (C : Nat → Nat) (Z : Nat → List Int) (held taken : Int) (w : World) (hn : n ≤ 256) (h : Lines w a n A C Z) (hh : wrap64 held = held) (ht : IntKind.u64.wrap taken = taken) :
    Calls Yba.prog 4 #[.slice a n c, .int .i64 held, .int .u64 taken] w fun e w' => e = .returned (.bool true) ∧ Below w.heap.size w w' := by
  have L := hide h
  have HH := hide hh
  have HT := hide ht
  clear h hh ht
  have hd : decide ((256 : Int) < (n : Int)) = false := decide_eq_false (by omega)
  go_enter Yba.func4, Yba.ntmps4
  go_wp2_with fail
  go_loop [7, 8] (fun t i => ∃ k : Nat, k ≤ n ∧ i = .int .i64 k ∧ t = .int .i64 (cat Z k).length ∧ ∀ j, j < k → (Z j).length ≤ 1024) (fun _ i => n - (intOf i).toNat)
  case atStart => exact ⟨0, by omega, rfl, rfl, fun j hj => by omega⟩
  case round =>
    obtain ⟨k, hk, rfl, rfl, hz⟩ := hrel
    have HZ := hide hz
    clear hz
    by_cases hlt : k < n
    · obtain ⟨b, off, rfl, hc, _⟩ := L.out.cell k hlt
      have hf := L.out.fits k hlt
      have q1 : (k : Int) < (n : Int) := by omega
      have q3 : (0 : Int) ≤ (k : Int) := by omega
      have hle := cat_le Z k HZ.out
      by_cases hbig : 1024 < (Z k).length
      · have hd2 : decide ((1024 : Int) < ((Z k).length : Int)) = true := decide_eq_true (by omega)
        go_wp2_with fail
        go_ret
        exact ⟨rfl, Below.refl _ _⟩
      · have hd2 : decide ((1024 : Int) < ((Z k).length : Int)) = false := decide_eq_false (by omega)
        have hw : IntKind.i64.wrap (((cat Z k).length : Int) + ((Z k).length : Int)) = ((cat Z (k + 1)).length : Int) := by
          rw [IntKind.wrap_i64]; simp only [cat, List.length_append]; omega
        go_wp2_with fail
        go_round
        case rel => exact ⟨k + 1, by omega, by go_num, by simp [cat], fun j hj => by
          by_cases e : j = k
          · subst e; omega
          · exact HZ.out j (by omega)⟩
        case measure => simp [intOf]; omega
    · obtain rfl : n = k := by omega
      have hx : decide ((n : Int) < (n : Int)) = false := decide_eq_false (by omega)
      have hle := cat_le Z n HZ.out
      clear hlt hk
      have S0 := hide (sits_new w held taken HH.out HT.out)
      go_wp2_with fail
      go_loopw [10] (fun i wr => ∃ k v, k ≤ n ∧ i = .int .i64 (k : Nat) ∧ Sits w wr w.heap.size v (cat Z k) held taken) (fun i _ => n - (intOf i).toNat)
      case atStart => exact ⟨0, _, by omega, rfl, S0.out⟩
      case round =>
        obtain ⟨k, v, hk, rfl, sits⟩ := hrel
        have S := hide sits
        clear sits S0
        by_cases hlt : k < n
        · obtain ⟨xb, xo, rfl, _, _⟩ := L.out.cell k hlt
          have hc : ∀ u, (wr.setCell ⟨w.heap.size, 7, none⟩ u).cell? ⟨xb, xo + k, none⟩ = some (.slice (A k) (Z k).length (C k)) := fun u => by
            obtain ⟨b', o', e, h, _⟩ := (L.out.later (S.out.set u)).cell k hlt
            simp only [Option.some.injEq, Addr.mk.injEq] at e
            obtain ⟨rfl, rfl, _⟩ := e
            exact h
          have q1 : (k : Int) < (n : Int) := by omega
          have q3 : (0 : Int) ≤ (k : Int) := by omega
          have d7 : wr.cell? ⟨w.heap.size, 7, none⟩ = some (.int .i64 0) := by rw [cell_of_row wr w.heap.size 7 _ 38 (0, 0) S.out.row]; rfl
          have f7 : wr.frozen? ⟨w.heap.size, 7, none⟩ = false := free_of_row S.out.row
          have hcat : (cat Z k).length ≤ 1024 * k := cat_le Z k fun i hi => HZ.out i (by omega)
          go_wp2_with fail
          refine (clone_any (A k) (Z k).length (C k) (Z k) _ (by exact (L.out.bytes k hlt).later (S.out.set _)) (HZ.out k hlt)).mono ?_
          rintro e w2 ⟨ao, c2, rfl, cl⟩
          have CL := hide cl
          clear cl hc
          have A1 := hide (S.out.asks CL.out)
          go_wp2_with fail
          refine (take_any w.heap.size w.heap.size ⟨#[120]⟩ 100 v _ _ _ 0 (cat Z k).length (Z k).length c2 ((cat Z k).map (Value.int .u8)) ((Z k).map (Value.int .u8)) ao w2 A1.out.1 A1.out.2.1 S.out.off (by omega) (HZ.out k hlt) (by simp) A1.out.2.2.1 A1.out.2.2.2.1 (ints_oneCell _ _) A1.out.2.2.2.2.1).mono ?_
          rintro e w3 ⟨rfl, took⟩
          obtain ⟨v', S3⟩ := S.out.next CL.out took
          have e7 : w3.cell? ⟨w.heap.size, 7, none⟩ = some (.int .i64 0) := by rw [cell_of_row w3 w.heap.size 7 _ 38 (0, 0) S3.row]; rfl
          have SN := hide S3
          clear S3 took d7 f7
          go_wp2_with fail
          go_roundw
          case rel => exact ⟨k + 1, v', by omega, by go_num, SN.out⟩
          case measure => simp [intOf]; omega
        · obtain rfl : n = k := by omega
          clear hlt hk
          obtain ⟨ao, c', rfl⟩ := ownsRow_form S.out.own
          have d5 : wr.cell? ⟨w.heap.size, 5, none⟩ = some (.slice ao (cat Z n).length c') := by rw [cell_of_row wr w.heap.size 5 _ 38 (0, 0) S.out.row]; rfl
          have d6 : wr.cell? ⟨w.heap.size, 6, none⟩ = some (.int .i64 (wrap64 (held + (cat Z n).length))) := by rw [cell_of_row wr w.heap.size 6 _ 38 (0, 0) S.out.row]; rfl
          have d8 : wr.cell? ⟨w.heap.size, 8, none⟩ = some (.int .u64 (IntKind.u64.wrap (taken + (cat Z n).length))) := by rw [cell_of_row wr w.heap.size 8 _ 38 (0, 0) S.out.row]; rfl
          generalize hWW : wr = WW at *
          clear hWW wr
          go_wp2_with fail
          go_loopw [11, 12] (fun t i wr => ∃ k nq : Nat, k ≤ n ∧ i = .int .i64 k ∧ t = .int .i64 (cat Z k).length ∧ wr = WW.drewN nq) (fun _ i _ => n - (intOf i).toNat)
          case atStart => exact ⟨0, 0, by omega, rfl, rfl, rfl⟩
          case round =>
            obtain ⟨k, nq, hk, rfl, rfl, rfl⟩ := hrel
            by_cases hlt : k < n
            · obtain ⟨xb, xo, rfl, hc, _⟩ := (L.out.later S.out.below).cell k hlt
              have q1 : (k : Int) < (n : Int) := by omega
              have q3 : (0 : Int) ≤ (k : Int) := by omega
              have hl1024 := HZ.out k hlt
              have hsum : (cat Z (k + 1)).length ≤ (cat Z n).length := cat_mono Z (by omega)
              simp only [cat, List.length_append] at hsum
              go_wp2_with fail
              go_loopw [11, 13] (fun t i wr => ∃ j nq : Nat, j ≤ (Z k).length ∧ i = .int .i64 j ∧ t = .int .i64 ((cat Z k).length + j : Nat) ∧ wr = WW.drewN nq) (fun _ i _ => (Z k).length - (intOf i).toNat)
              case atStart => exact ⟨0, _, by omega, rfl, rfl, rfl⟩
              case round =>
                obtain ⟨j, nq, hj, rfl, rfl, rfl⟩ := hrel
                by_cases hlj : j < (Z k).length
                · obtain ⟨_, hh⟩ := (L.out.later S.out.below).bytes k hlt
                  rcases hh with ⟨_, h, _⟩ | ⟨y, hA, hcy, hs, _⟩
                  · omega
                  obtain ⟨yb, yo, ys⟩ := y
                  obtain rfl : ys = none := hs (by omega)
                  rw [hA] at hc
                  have e2 := hcy j hlj
                  rw [Addr.add_lit] at e2
                  obtain ⟨g, rfl, e1⟩ := pend_cell S.out (j := (cat Z k).length + j) (by omega)
                  rw [cat_get Z hlt hlj] at e1
                  have p1 : (j : Int) < ((Z k).length : Int) := by omega
                  have p2 : (0 : Int) ≤ (j : Int) := by omega
                  have p3 : (((cat Z k).length + j : Nat) : Int) < ((cat Z n).length : Int) := by omega
                  have p4 : (0 : Int) ≤ (((cat Z k).length + j : Nat) : Int) := by omega
                  have p5 : ((cat Z k).length : Int) + (j : Int) < ((cat Z n).length : Int) := by omega
                  have p6 : (0 : Int) ≤ ((cat Z k).length : Int) + (j : Int) := by omega
                  have p7 : (((cat Z k).length : Int) + (j : Int)).toNat = (cat Z k).length + j := by omega
                  clear hcy hs hA
                  go_wp2_with fail
                  go_quiet (fail)
                  go_wp2_with fail
                  go_roundw
                  case rel => exact ⟨j + 1, _, by omega, by go_num, by go_num, rfl⟩
                  case measure => simp [intOf]; omega
                · obtain rfl : j = (Z k).length := by omega
                  have hxj : decide (((Z k).length : Int) < ((Z k).length : Int)) = false := decide_eq_false (by omega)
                  clear hlj hj
                  go_wp2_with fail
                  go_roundw
                  case rel => exact ⟨k + 1, _, by omega, by go_num, by simp [cat], rfl⟩
                  case measure => simp [intOf]; omega
            · obtain rfl : n = k := by omega
              clear hlt hk
              go_wp2_with fail
              go_ret
              exact ⟨rfl, below_drewQ S.out.below _⟩
end Go.Proofs.Ybulkanui
