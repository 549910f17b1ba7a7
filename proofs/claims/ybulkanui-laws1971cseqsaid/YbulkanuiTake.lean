/-
  DERIVED. LawS1971CTake: the walk.
-/
import Derived.Test.YbulkanuiWalks
import Derived.BigQuiet
import Derived.Deep.QuietTactic
namespace Go.Proofs.Ybulkanui
open Go.RowKit
theorem hide {p : Prop} (h : p) : Hid p := h

theorem below_drewQ {B : Nat} {a w : World} (h : Below B a w) (q : Nat) : Below B a (w.drewN q) := ⟨h.os, h.tape, h.output, h.size, h.block⟩

/-- A slice of bytes that came in: nil, or 'cap' cells of which the first 'len' are its elements 'zs'. -/
def IsBytes (w : World) (a : Option Addr) (len cap : Nat) (zs : List Int) : Prop :=
  zs.length = len ∧ ((a = none ∧ len = 0 ∧ cap = 0) ∨ ∃ x, a = some x ∧ (∀ i, i < len → w.cell? (x.add i) = some (.int .u8 (zs.getD i 0))) ∧ (0 < len → x.spot = none) ∧ (0 < len → x.block < w.heap.size))

/-- What a clone is: the elements in a block of their own, the last; or nil, and nothing was laid. -/
structure Cloned (w w' : World) (ao : Option Addr) (len c : Nat) (zs : List Int) : Prop where
  way : (ao = none ∧ len = 0 ∧ c = 0 ∧ w' = w) ∨ (ao = some ⟨w.heap.size, 0, none⟩ ∧ c = len ∧ w' = w.alloc (.cells (zs.map (Value.int .u8)).toArray 5))
  len : zs.length = len

theorem clone_any (a : Option Addr) (len cap : Nat) (zs : List Int) (w : World) (h : IsBytes w a len cap zs) (hl : len ≤ 1024) :
    Calls Yba.prog 5 #[.slice a len cap] w fun e w' => ∃ ao c, e = .returned (.slice ao len c) ∧ Cloned w w' ao len c zs := by
  obtain ⟨hz, h⟩ := h
  rcases h with ⟨rfl, rfl, rfl⟩ | ⟨x, rfl, hc, hs, hb⟩
  · exact (clone_nil w).mono fun e w' ⟨he, hw⟩ => ⟨none, 0, he, ⟨.inl ⟨rfl, rfl, rfl, hw⟩, hz⟩⟩
  · by_cases h0 : len = 0
    · subst h0
      obtain rfl : zs = [] := List.eq_nil_of_length_eq_zero hz
      exact (clone_empty x cap w).mono fun e w' ⟨he, hw⟩ => ⟨_, _, he, ⟨.inr ⟨rfl, rfl, hw⟩, rfl⟩⟩
    · exact (clone_some x len cap zs w hz hl hc (hb (by omega))).mono fun e w' ⟨he, hw⟩ => ⟨_, _, he, ⟨.inr ⟨rfl, rfl, hw⟩, hz⟩⟩

theorem Cloned.size {w w' : World} {ao : Option Addr} {len c : Nat} {zs : List Int} (h : Cloned w w' ao len c zs) : w.heap.size ≤ w'.heap.size := by
  rcases h.way with ⟨_, _, _, rfl⟩ | ⟨_, _, rfl⟩
  · exact Nat.le_refl _
  · simp
theorem Cloned.below {w w' : World} {ao : Option Addr} {len c : Nat} {zs : List Int} (h : Cloned w w' ao len c zs) : Below w.heap.size w w' := by
  rcases h.way with ⟨_, _, _, rfl⟩ | ⟨_, _, rfl⟩
  · exact Below.refl _ _
  · exact (Below.refl _ w).alloc (Nat.le_refl _) _
theorem Cloned.own {w w' : World} {ao : Option Addr} {len c : Nat} {zs : List Int} (h : Cloned w w' ao len c zs) (hl : len ≤ 1024) {base : Nat} (hb : base ≤ w.heap.size) : w'.ownsRow base 5 1 (.slice ao len c) len (zs.map (Value.int .u8)) := by
  have hz := h.len
  rcases h.way with ⟨rfl, rfl, rfl, rfl⟩ | ⟨rfl, rfl, rfl⟩
  · obtain rfl : zs = [] := List.eq_nil_of_length_eq_zero hz
    exact World.ownsRow_nil _ _ _ _
  · refine ⟨by simp [hz], .inr ⟨w.heap.size, c, _, rfl, hb, heap_alloc_new w _, Nat.le_refl _, by unfold maxLen; omega, by simp [hz], ?_⟩⟩
    rw [Nat.mul_one, List.take_of_length_le (by simp [hz])]
/-- The clone's cells, in whatever later world keeps its block. -/
theorem Cloned.cell {w w' : World} {ao : Option Addr} {len c : Nat} {zs : List Int} (h : Cloned w w' ao len c zs) {x : Addr} (hx : ao = some x) : x = ⟨w.heap.size, 0, none⟩ ∧ w'.heap[w.heap.size]? = some (.cells (zs.map (Value.int .u8)).toArray 5 (0, 0)) := by
  rcases h.way with ⟨rfl, _, _, _⟩ | ⟨rfl, _, rfl⟩
  · cases hx
  · exact ⟨(Option.some.inj hx).symm, heap_alloc_new w _⟩

/-- What the law reads behind 'take'. -/
structure Reads (w W : World) (b : Nat) (g : Nat) (ao : Option Addr) (c : Nat) (ao1 : Option Addr) (c1 : Nat) (zs0 zs1 : List Int) (room held taken written : Int) : Prop where
  row : W.heap[b]? = some (.cells (qRow ⟨#[112]⟩ room (.slice ao (zs0.length + zs1.length) c) held 0 taken written) 38 (0, 0))
  some : 0 < zs0.length + zs1.length → ao = .some ⟨g, 0, none⟩
  pend : ∀ i, i < zs0.length + zs1.length → W.cell? ⟨g, i, none⟩ = .some (.int .u8 ((zs0 ++ zs1).getD i 0))
  line : 0 < zs1.length → ∃ g1, ao1 = .some ⟨g1, 0, none⟩ ∧ ∀ i, i < zs1.length → W.cell? ⟨g1, i, none⟩ = .some (.int .u8 (zs1.getD i 0))
  below : Below w.heap.size w W

theorem getD_map_cells (zs : List Int) (i : Nat) (h : i < zs.length) : (zs.map (Value.int .u8)).toArray[i]? = some (.int .u8 (zs.getD i 0)) := by
  simp [List.getD, h]

theorem getD_app_left (xs ys : List Int) (k : Nat) (h : k < xs.length) : (xs ++ ys).getD k 0 = xs.getD k 0 := by
  rw [List.getD_eq_getElem?_getD, List.getD_eq_getElem?_getD, List.getElem?_append_left h]
theorem getD_app_right (xs ys : List Int) (k : Nat) : (xs ++ ys).getD (xs.length + k) 0 = ys.getD k 0 := by
  rw [List.getD_eq_getElem?_getD, List.getD_eq_getElem?_getD, List.getElem?_append_right (Nat.le_add_right _ _), Nat.add_sub_cancel_left]

theorem reads_of {w w1 w2 W : World} {ao0 ao1 : Option Addr} {c0 c1 : Nat} {zs0 zs1 : List Int} {room held dropped taken written held' taken' : Int} (h0 : Cloned w w1 ao0 zs0.length c0 zs0) (h1 : Cloned w1 w2 ao1 zs1.length c1 zs1)
    (ht : Took (w2.alloc (.cells (qRow ⟨#[112]⟩ room (.slice ao0 zs0.length c0) held dropped taken written) 38)) W w.heap.size w2.heap.size (.slice ao0 zs0.length c0) (zs0.length + zs1.length) (zs0.map (Value.int .u8) ++ zs1.map (Value.int .u8)) ⟨#[112]⟩ room held' taken' written) :
    ∃ g ao c, Reads w W w2.heap.size g ao c ao1 c1 zs0 zs1 room held' taken' written := by
  obtain ⟨v', hown, hrow, _⟩ := ht.own
  obtain ⟨ao, c, rfl⟩ := ownsRow_form hown
  have s1 := h0.size
  have s2 := h1.size
  have hob : ∀ k, (Value.slice ao0 zs0.length c0).ownBlock = some k → k = w.heap.size ∧ w.heap.size < w1.heap.size := by
    intro k hk
    rcases h0.way with ⟨rfl, _, _, _⟩ | ⟨rfl, _, rfl⟩
    · simp [Value.ownBlock] at hk
    · simp [Value.ownBlock] at hk; simp [hk]
  have hbel : Below w.heap.size w W := by
    refine ⟨ht.os.trans (h1.below.os.trans h0.below.os), ht.tape.trans (h1.below.tape.trans h0.below.tape), ht.output.trans (h1.below.output.trans h0.below.output), by have := ht.size; simp at this; omega, fun k hk => ?_⟩
    rw [ht.block k (by simp; omega) (by omega) (fun e => by have := hob k e.symm; omega), Below.heap_alloc _ _ _ (by omega), h1.below.block k (by omega), h0.below.block k hk]
  have hline : 0 < zs1.length → ∃ g1, ao1 = .some ⟨g1, 0, none⟩ ∧ ∀ i, i < zs1.length → W.cell? ⟨g1, i, none⟩ = .some (.int .u8 (zs1.getD i 0)) := by
    intro hp
    rcases h1.way with ⟨_, h, _, _⟩ | ⟨rfl, _, hw2⟩
    · omega
    · refine ⟨w1.heap.size, rfl, fun i hi => ?_⟩
      have hz2 : w2.heap.size = w1.heap.size + 1 := by rw [hw2]; simp
      have hb : W.heap[w1.heap.size]? = .some (.cells (zs1.map (Value.int .u8)).toArray 5 (0, 0)) := by
        rw [ht.block w1.heap.size (by simp; omega) (by omega) (fun e => by have := hob _ e.symm; omega), Below.heap_alloc _ _ _ (by omega)]
        exact (h1.cell rfl).2
      rw [cell_of_row W w1.heap.size i _ 5 (0, 0) hb]
      exact getD_map_cells zs1 i hi
  by_cases hp : 0 < zs0.length + zs1.length
  · rcases hown.2 with ⟨_, h⟩ | ⟨g, cap, cur, hv, _, hh, _⟩
    · omega
    · simp only [Value.slice.injEq] at hv
      obtain ⟨rfl, _, rfl⟩ := hv
      refine ⟨g, _, c, hrow, fun _ => rfl, fun i hi => ?_, hline, hbel⟩
      have := hown.cells (g := g) rfl i (.int .u8 ((zs0 ++ zs1).getD i 0)) (by rw [← List.map_append, List.getElem?_map, List.getD_eq_getElem?_getD, List.getElem?_eq_getElem (by rw [List.length_append]; exact hi)]; rfl)
      rwa [Addr.add_lit, Nat.zero_add] at this
  · exact ⟨0, ao, c, hrow, fun h => absurd h hp, fun i hi => by omega, hline, hbel⟩

theorem IsBytes.later {w w' : World} {a : Option Addr} {len cap : Nat} {zs : List Int} (h : IsBytes w a len cap zs) (hb : Below w.heap.size w w') : IsBytes w' a len cap zs := by
  obtain ⟨hz, h⟩ := h
  refine ⟨hz, ?_⟩
  rcases h with h | ⟨x, rfl, hc, hs, hx⟩
  · exact .inl h
  · refine .inr ⟨x, rfl, fun i hi => ?_, hs, fun hp => Nat.lt_of_lt_of_le (hx hp) hb.size⟩
    rw [hb.cell (p := x.add i) (by rw [add_block]; exact hx (by omega))]
    exact hc i hi

/-- What 'take' asks, behind the two clones and the queue's box. -/
theorem asks {w w1 w2 : World} {ao0 ao1 : Option Addr} {c0 c1 : Nat} {zs0 zs1 : List Int} (o : Obj) (h0 : Cloned w w1 ao0 zs0.length c0 zs0) (h1 : Cloned w1 w2 ao1 zs1.length c1 zs1) (hl0 : zs0.length ≤ 1024) :
    (w2.alloc o).ownsRow w.heap.size 5 1 (.slice ao0 zs0.length c0) zs0.length (zs0.map (Value.int .u8)) ∧ (Value.slice ao0 zs0.length c0).ownBlock ≠ some w2.heap.size ∧ (ao1 = none → zs1.length = 0 ∧ c1 = 0) ∧
    (∀ ad, ao1 = some ad → ∀ j u, (zs1.map (Value.int .u8))[j]? = some u → (w2.alloc o).cell? (ad.add j) = some u) ∧ w.heap.size ≤ (w2.alloc o).heap.size := by
  have s1 := h0.size
  have s2 := h1.size
  have g12 : w1.grownBy w2 none := ⟨h1.below.os, h1.below.tape, h1.below.output, s2, fun k hk _ => h1.below.block k hk⟩
  refine ⟨((h0.own hl0 (Nat.le_refl _)).kept g12 (by cases ao0 <;> simp [Value.ownBlock])).alloc o, ?_, ?_, ?_, by simp; omega⟩
  · rcases h0.way with ⟨rfl, _, _, _⟩ | ⟨rfl, _, rfl⟩
    · simp [Value.ownBlock]
    · simp [Value.ownBlock] at s2 ⊢; omega
  · intro e
    rcases h1.way with ⟨_, h, h', _⟩ | ⟨h, _, _⟩
    · exact ⟨h, h'⟩
    · rw [e] at h; cases h
  · intro ad had j u hu
    obtain ⟨rfl, hb⟩ := h1.cell had
    have hz2 : w1.heap.size < w2.heap.size := lt_of_block hb
    rw [cell_add_alloc w2 o _ j hz2, Addr.add_lit, Nat.zero_add, cell_of_row w2 w1.heap.size j _ 5 (0, 0) hb]
    simpa using hu

set_option maxRecDepth 100000 in
set_option maxHeartbeats 400000 in
theorem take_long (a0 : Option Addr) (n0 k0 : Nat) (a1 : Option Addr) (n1 k1 : Nat) (held taken dropped room written : Int) (w : World) (h0 : n0 ≤ 9223372036854775807) (h1 : n1 ≤ 9223372036854775807) (h : 1024 < n0 ∨ 1024 < n1) :
    Calls Yba.prog 3 #[.slice a0 n0 k0, .slice a1 n1 k1, .int .i64 held, .int .u64 taken, .int .i64 dropped, .int .i64 room, .int .u64 written] w fun e w' => e = .returned (.bool true) ∧ Below w.heap.size w w' := by
  by_cases hn : 1024 < n0
  · go_enter Yba.func3, Yba.ntmps3
    go_wp2
    go_ret
    exact ⟨rfl, Below.refl _ _⟩
  · have hd : decide ((1024 : Int) < (n0 : Int)) = false := decide_eq_false (by omega)
    have hn1 : 1024 < n1 := by omega
    go_enter Yba.func3, Yba.ntmps3
    go_wp2
    go_ret
    exact ⟨rfl, Below.refl _ _⟩

set_option maxRecDepth 100000 in
set_option maxHeartbeats 1000000 in
theorem take_main (a0 : Option Addr) (k0 : Nat) (zs0 : List Int) (a1 : Option Addr) (k1 : Nat) (zs1 : List Int) (held taken dropped room written : Int) (w : World) (i0 : IsBytes w a0 zs0.length k0 zs0) (i1 : IsBytes w a1 zs1.length k1 zs1) (l0 : zs0.length ≤ 1024) (l1 : zs1.length ≤ 1024) :
    Calls Yba.prog 3 #[.slice a0 zs0.length k0, .slice a1 zs1.length k1, .int .i64 held, .int .u64 taken, .int .i64 dropped, .int .i64 room, .int .u64 written] w fun e w' => e = .returned (.bool true) ∧ Below w.heap.size w w' := by
  have I0 := hide i0
  have I1 := hide i1
  have hd : decide ((1024 : Int) < (zs0.length : Int)) = false := decide_eq_false (by omega)
  have hd1 : decide ((1024 : Int) < (zs1.length : Int)) = false := decide_eq_false (by omega)
  clear i0 i1
  go_enter Yba.func3, Yba.ntmps3
  go_wp2_with fail
  refine (clone_any a0 zs0.length k0 zs0 w I0.out l0).mono ?_
  rintro e w1 ⟨ao0, c0, rfl, cl0⟩
  have C0 := hide cl0
  clear cl0
  go_wp2_with fail
  refine (clone_any a1 zs1.length k1 zs1 w1 (I1.out.later C0.out.below) l1).mono ?_
  rintro e w2 ⟨ao1, c1, rfl, cl1⟩
  have C1 := hide cl1
  clear cl1
  go_wp2_with fail
  have hask := fun o => asks o C0.out C1.out l0
  refine (take_any w.heap.size w2.heap.size ⟨#[112]⟩ room (.slice ao0 zs0.length c0) held dropped taken written zs0.length zs1.length c1 (zs0.map (Value.int .u8)) (zs1.map (Value.int .u8)) ao1 _ (by exact heap_alloc_new w2 _) (by exact (hask _).1) (hask (.map #[] 0)).2.1 (by omega) l1 (by simp) (hask (.map #[] 0)).2.2.1 (by exact (hask _).2.2.2.1) (ints_oneCell _ _) (by exact (hask _).2.2.2.2)).mono ?_
  rintro e W ⟨rfl, took⟩
  obtain ⟨g, ao, c, R⟩ := reads_of C0.out C1.out took
  clear took hask
  obtain ⟨b, hb⟩ : ∃ b, w2.heap.size = b := ⟨_, rfl⟩
  rw [hb] at R ⊢
  clear hb C0 C1
  have d5 : W.cell? ⟨b, 5, none⟩ = some (.slice ao (zs0.length + zs1.length) c) := by rw [cell_of_row W b 5 _ 38 (0, 0) R.row]; rfl
  have d6 : W.cell? ⟨b, 6, none⟩ = some (.int .i64 (wrap64 (held + zs1.length))) := by rw [cell_of_row W b 6 _ 38 (0, 0) R.row]; rfl
  have d7 : W.cell? ⟨b, 7, none⟩ = some (.int .i64 0) := by rw [cell_of_row W b 7 _ 38 (0, 0) R.row]; rfl
  have d8 : W.cell? ⟨b, 8, none⟩ = some (.int .u64 (IntKind.u64.wrap (taken + zs1.length))) := by rw [cell_of_row W b 8 _ 38 (0, 0) R.row]; rfl
  have d9 : W.cell? ⟨b, 9, none⟩ = some (.int .u64 written) := by rw [cell_of_row W b 9 _ 38 (0, 0) R.row]; rfl
  have d0 : W.cell? ⟨b, 0, none⟩ = some .nilIface := by rw [cell_of_row W b 0 _ 38 (0, 0) R.row]; rfl
  have d1 : W.cell? ⟨b, 1, none⟩ = some (.string ⟨#[112]⟩) := by rw [cell_of_row W b 1 _ 38 (0, 0) R.row]; rfl
  have d2 : W.cell? ⟨b, 2, none⟩ = some (.int .i64 room) := by rw [cell_of_row W b 2 _ 38 (0, 0) R.row]; rfl
  have d10 : W.cell? ⟨b, 10, none⟩ = some (.slice none 0 0) := by rw [cell_of_row W b 10 _ 38 (0, 0) R.row]; rfl
  have d11 : W.cell? ⟨b, 11, none⟩ = some (.bool false) := by rw [cell_of_row W b 11 _ 38 (0, 0) R.row]; rfl
  have RR := hide R
  clear R
  have hne : (((zs0.length + zs1.length : Nat) : Int) != (zs0.length : Int) + (zs1.length : Int)) = false := by rw [bne_eq_false_iff_eq]; omega
  go_wp2_with fail
  go_loopw [18] (fun i wr => ∃ k nq : Nat, k ≤ zs0.length ∧ i = .int .i64 k ∧ wr = W.drewN nq) (fun i _ => zs0.length - (intOf i).toNat)
  case atStart => exact ⟨0, 0, by omega, rfl, rfl⟩
  case round =>
    obtain ⟨k, nq, hk, rfl, rfl⟩ := hrel
    by_cases hlt : k < zs0.length
    · obtain ⟨_, hh⟩ := I0.out.later RR.out.below
      rcases hh with ⟨_, h, _⟩ | ⟨x, rfl, hc, hs, _⟩
      · omega
      obtain ⟨xb, xo, xs⟩ := x
      obtain rfl : xs = none := hs (by omega)
      obtain rfl := RR.out.some (by omega)
      have e1 := RR.out.pend k (by omega)
      have e2 := hc k hlt
      rw [Addr.add_lit] at e2
      have e3 : (zs0 ++ zs1).getD k 0 = zs0.getD k 0 := getD_app_left _ _ _ hlt
      rw [e3] at e1
      have q1 : (k : Int) < (zs0.length : Int) := by omega
      have q2 : (k : Int) < (zs0.length : Int) + (zs1.length : Int) := by omega
      have q3 : (0 : Int) ≤ (k : Int) := by omega
      have q4 : (k : Int) < ((zs0.length + zs1.length : Nat) : Int) := by omega
      have q5 : k < zs0.length + zs1.length := by omega
      clear hc hs e3
      go_wp2_with fail
      go_quiet (fail)
      go_wp2_with fail
      go_roundw
      case rel => exact ⟨k + 1, _, by omega, by go_num, rfl⟩
      case measure => simp [intOf]; omega
    · obtain rfl : k = zs0.length := by omega
      have hx0 : decide ((zs0.length : Int) < (zs0.length : Int)) = false := decide_eq_false (by omega)
      clear hlt hk
      go_wp2_with fail
      go_loopw [19] (fun i wr => ∃ k nq : Nat, k ≤ zs1.length ∧ i = .int .i64 k ∧ wr = W.drewN nq) (fun i _ => zs1.length - (intOf i).toNat)
      case atStart => exact ⟨0, _, by omega, rfl, rfl⟩
      case round =>
        obtain ⟨k, nq, hk, rfl, rfl⟩ := hrel
        by_cases hlt : k < zs1.length
        · obtain ⟨_, hh⟩ := I1.out.later RR.out.below
          rcases hh with ⟨_, h, _⟩ | ⟨x, rfl, hc, hs, _⟩
          · omega
          obtain ⟨xb, xo, xs⟩ := x
          obtain rfl : xs = none := hs (by omega)
          obtain rfl := RR.out.some (by omega)
          have e1 := RR.out.pend (zs0.length + k) (by omega)
          have e2 := hc k hlt
          rw [Addr.add_lit] at e2
          have e3 : (zs0 ++ zs1).getD (zs0.length + k) 0 = zs1.getD k 0 := getD_app_right _ _ _
          rw [e3] at e1
          have q1 : (k : Int) < (zs1.length : Int) := by omega
          have q2 : (zs0.length : Int) + (k : Int) < (zs0.length : Int) + (zs1.length : Int) := by omega
          have q3 : (0 : Int) ≤ (k : Int) := by omega
          have q4 : (zs0.length : Int) + (k : Int) < ((zs0.length + zs1.length : Nat) : Int) := by omega
          have q6 : (0 : Int) ≤ (zs0.length : Int) + (k : Int) := by omega
          have q7 : ((zs0.length : Int) + (k : Int)).toNat = zs0.length + k := by omega
          have q8 : IntKind.i64.wrap ((zs0.length : Int) + (k : Int)) = (zs0.length : Int) + (k : Int) := by rw [IntKind.wrap_i64]; omega
          clear hc hs e3
          go_wp2_with fail
          go_quiet (fail)
          go_wp2_with fail
          go_roundw
          case rel => exact ⟨k + 1, _, by omega, by go_num, rfl⟩
          case measure => simp [intOf]; omega
        · obtain rfl : k = zs1.length := by omega
          have hx1 : decide ((zs1.length : Int) < (zs1.length : Int)) = false := decide_eq_false (by omega)
          clear hlt hk
          go_wp2_with fail
          go_loopw [20] (fun i wr => ∃ k nq : Nat, k ≤ zs1.length ∧ i = .int .i64 k ∧ wr = W.drewN nq) (fun i _ => zs1.length - (intOf i).toNat)
          case atStart => exact ⟨0, _, by omega, rfl, rfl⟩
          case round =>
            obtain ⟨k, nq, hk, rfl, rfl⟩ := hrel
            by_cases hlt : k < zs1.length
            · obtain ⟨_, hh⟩ := I1.out.later RR.out.below
              rcases hh with ⟨_, h, _⟩ | ⟨x, rfl, hc, hs, _⟩
              · omega
              obtain ⟨xb, xo, xs⟩ := x
              obtain rfl : xs = none := hs (by omega)
              obtain ⟨g1, rfl, hg1⟩ := RR.out.line (by omega)
              have e1 := hg1 k hlt
              have e2 := hc k hlt
              rw [Addr.add_lit] at e2
              have q1 : (k : Int) < (zs1.length : Int) := by omega
              have q3 : (0 : Int) ≤ (k : Int) := by omega
              clear hc hs hg1
              go_wp2_with fail
              go_quiet (fail)
              go_wp2_with fail
              go_roundw
              case rel => exact ⟨k + 1, _, by omega, by go_num, rfl⟩
              case measure => simp [intOf]; omega
            · obtain rfl : k = zs1.length := by omega
              clear hlt hk
              have q35 : ∀ w : World, (binOp .eql 35 (.slice none 0 0) (.slice none 0 0)).run Yba.prog w = .ok (.bool true) w := fun w => Lib.run_eql_slice_nil w _ _ none 0 0 0 0 Yba.underlying35
              go_wp2_with fail
              go_ret
              exact ⟨rfl, below_drewQ RR.out.below _⟩
end Go.Proofs.Ybulkanui
