/-
  DERIVED. zzs1970abuild: a chain of record sets.
-/
import Derived.Test.YbulkantuWalks
namespace Go.Proofs.Ybulkantu
open Go.RowKit

/-- The set at block b0, its map at bm0 with at most k entries. -/
structure At (w wr : World) (b0 bm0 k : Nat) (p : Option Addr) : Prop where
  cells : wr.heap[b0]? = some (.cells (rsCells bm0 p) 44 (0, 0))
  map : ∃ D, wr.ownsMap (H := Unit) Yba.prog 49 anyElem bm0 k D
  below : Below w.heap.size w wr
  b : w.heap.size ≤ b0
  bm : w.heap.size ≤ bm0

def fwZero : Array Value := #[.slice none 0 0, .int .i64 0, .pointer none, .int .u64 0, .string ⟨#[]⟩, .int .u64 0]
theorem info80 : (Yba.prog.info? 80).map (fun i => (i.zero, i.size, i.bytes)) = some (some (.agg fwZero), 6, 72) := by kernel_rfl
def fwCells (n : Nat) : Array Value := madeCells fwZero (n * 6)
theorem make_fw (n : Nat) (N : Int) (hN : N = (n : Int)) (hn : n ≤ 4) (w : World) : (Instr.makeSlice 52 (.int .i64 N) (.int .i64 N)).run Yba.prog w = .ok (.slice (some ⟨w.heap.size, 0, none⟩) n n) (w.alloc (.cells (fwCells n) 80)) := by
  subst hN
  obtain ⟨i0, hi, hz0, hz1, hz2⟩ := info_parts info80
  have := run_make (P := Yba.prog) w 52 80 i0 (.agg fwZero) Yba.underlying52 hi hz0 .i64 .i64 (n : Int) (n : Int) (by omega) (by omega) (by rw [hz2]; omega) (by omega)
  simpa [hz1, Value.cells, fwCells] using this

/-- Behind one record's laying: the record's map, its field's slice, two stores. -/
theorem At.laid {w wr W3 W4 : World} {b0 bm0 k : Nat} {p : Option Addr} {o1 o2 : Obj} {D : DataW Unit} (h : At w wr b0 bm0 k p) (hne : bm0 ≠ b0) (g3 : ((wr.alloc o1).alloc o2).grownBy W3 (some wr.heap.size)) (g4 : W3.grownBy W4 (some bm0)) (ho : W4.ownsMap (H := Unit) Yba.prog 49 anyElem bm0 (k + 1) D) : At w W4 b0 bm0 (k + 1) p := by
  have hlb := lt_of_block h.cells
  have hs := h.below.size
  have hz : ((wr.alloc o1).alloc o2).heap.size = wr.heap.size + 2 := by simp
  have hs3 := g3.size
  refine ⟨?_, ⟨D, ho⟩, ?_, h.b, h.bm⟩
  · rw [g4.block b0 (by omega) (by simp; omega), g3.block b0 (by omega) (by simp; omega), Below.heap_alloc _ _ _ (by simp; omega), Below.heap_alloc _ _ _ hlb]
    exact h.cells
  · exact (((h.below.alloc hs _).alloc (by simp; omega) _).grown g3 (by omega) (fun j e => by cases e; exact hs)).grown g4 (by omega) (fun j e => by cases e; exact h.bm)
theorem At.skip {w wr : World} {b0 bm0 k : Nat} {p : Option Addr} (h : At w wr b0 bm0 k p) : At w wr b0 bm0 (k + 1) p := by
  obtain ⟨D, hD⟩ := h.map
  exact ⟨h.cells, ⟨D, hD.mono (by omega)⟩, h.below, h.b, h.bm⟩
theorem At.owned {w wr W3 : World} {b0 bm0 k : Nat} {p : Option Addr} {o1 o2 : Obj} {D : DataW Unit} (h : At w wr b0 bm0 k p) (hD : wr.ownsMap (H := Unit) Yba.prog 49 anyElem bm0 k D) (g3 : ((wr.alloc o1).alloc o2).grownBy W3 (some wr.heap.size)) :
    W3.ownsMap (H := Unit) Yba.prog 49 anyElem bm0 k D ∧ W3.cell? ⟨b0, 0, none⟩ = some (.map (some bm0)) := by
  have hlb := lt_of_block h.cells
  have hlm := hD.lt
  refine ⟨(((hD.kept (World.grownBy_alloc _ o1 none) (by simp)).kept (World.grownBy_alloc _ o2 none) (by simp)).kept g3 (by simp; omega)), ?_⟩
  have : W3.heap[b0]? = some (.cells (rsCells bm0 p) 44 (0, 0)) := by
    rw [g3.block b0 (by simp; omega) (by simp; omega), Below.heap_alloc _ _ _ (by simp; omega), Below.heap_alloc _ _ _ hlb]
    exact h.cells
  rw [cell_of_row W3 b0 0 _ 44 (0, 0) this]
  rfl

theorem At.start {w wr : World} {p : Option Addr} (hB : Below w.heap.size w wr) : At w ((wr.alloc (.map #[] 0)).alloc (.cells (rsCells wr.heap.size p) 44)) (wr.heap.size + 1) wr.heap.size 0 p := by
  have hs := hB.size
  refine ⟨?_, ⟨.map [], ?_⟩, (hB.alloc hs _).alloc (by simp; omega) _, by omega, hs⟩
  · have := heap_alloc_new (wr.alloc (.map #[] 0)) (.cells (rsCells wr.heap.size p) 44)
    rwa [World.size_alloc] at this
  · exact (World.ownsMap_made wr Yba.prog 49 anyElem).kept (World.grownBy_alloc _ _ none) (by simp)

set_option maxHeartbeats 1000000 in
theorem build_any (a : Option Addr) (len cap : Nat) (dep : Int) (w : World) (hlen : len ≤ 1024) (h0 : 0 ≤ dep) (h1 : dep ≤ 255)
    (hc : ∀ i, i < len → ∃ b off s, a = some ⟨b, off, none⟩ ∧ w.cell? ⟨b, off + i, none⟩ = some (.string s) ∧ s.size ≤ maxLen) :
    Calls Yba.prog 5 #[.slice a len cap, .int .u8 dep] w fun e w' => ∃ b bm k p, e = .returned (.pointer (some ⟨b, 0, none⟩)) ∧ k ≤ 1024 ∧ At w w' b bm k p := by
  have HN := hide (fun w => new_any w)
  have hmm := @run_makeMap Yba.prog
  have HC := hide hc
  clear hc
  go_enter Yba.func5, Yba.ntmps5
  go_wp2
  go_loopw [5, 7] (fun prev i wr => ∃ l : Nat, l ≤ dep % 3 + 1 ∧ i = .int .i64 l ∧ Below w.heap.size w wr ∧ ((l = 0 ∧ prev = .pointer none) ∨ (1 ≤ l ∧ ∃ b bm k p, prev = .pointer (some ⟨b, 0, none⟩) ∧ k ≤ 1024 ∧ At w wr b bm k p)))
    (fun _ i _ => 4 - (intOf i).toNat)
  case atStart => exact ⟨0, by omega, rfl, Below.refl _ _, .inl ⟨rfl, rfl⟩⟩
  case round =>
    obtain ⟨l, hl, rfl, hB, hprev⟩ := hrel
    by_cases hlt : (l : Int) ≤ dep % 3
    · obtain ⟨pp, rfl⟩ : ∃ pp, u5 = Value.pointer pp := by
        rcases hprev with ⟨_, h⟩ | ⟨_, b, bm, k, p, h, _⟩
        · exact ⟨_, h⟩
        · exact ⟨_, h⟩
      go_wp2_with (go_at_call 9; refine (HN.out _).mono ?_; rintro e w' ⟨rfl, rfl⟩)
      have hst : At w ((wr.alloc (.map #[] 0)).alloc (.cells ((rsCells wr.heap.size none).setIfInBounds 13 (.pointer pp)) 44)) (wr.heap.size + 1) wr.heap.size 0 pp := At.start hB
      have hwz := hB.size
      obtain ⟨W0, hW0⟩ : ∃ W0, (wr.alloc (.map #[] 0)).alloc (.cells ((rsCells wr.heap.size none).setIfInBounds 13 (.pointer pp)) 44) = W0 := ⟨_, rfl⟩
      rw [hW0] at hst ⊢
      clear hW0
      obtain ⟨b0, hb0⟩ : ∃ b0, wr.heap.size + 1 = b0 := ⟨_, rfl⟩
      obtain ⟨bm0, hbm0⟩ : ∃ bm0, wr.heap.size = bm0 := ⟨_, rfl⟩
      have hne : bm0 ≠ b0 := by omega
      rw [hb0, hbm0] at hst
      rw [hb0]
      clear hb0 hbm0 hwz hprev hB
      go_loopw [27] (fun i wr2 => ∃ k : Nat, k ≤ len ∧ i = .int .i64 k ∧ At w wr2 b0 bm0 k pp) (fun i _ => len - (intOf i).toNat)
      case atStart => exact ⟨0, by omega, rfl, hst⟩
      case round =>
        obtain ⟨k, hk, rfl, hat⟩ := hrel
        by_cases hkl : k < len
        · obtain ⟨b, off, s, rfl, hcell, hss⟩ := HC.out k hkl
          have hblt : b < w.heap.size := World.block_lt_of_cell? w ⟨b, off + k, none⟩ hcell
          have hcx : wr.cell? ⟨b, off + k, none⟩ = some (.string s) := (hat.below.cell (p := ⟨b, off + k, none⟩) hblt).trans hcell
          clear hcell
          by_cases hr : k % (l + 1) = 0
          · have hr' : ((k : Int) % ((l : Int) + 1) != 0) = false := by rw [bne_eq_false_iff_eq, show ((k : Int) % ((l : Int) + 1)) = ((k % (l + 1) : Nat) : Int) from by simp]; omega
            obtain ⟨D, hD⟩ := hat.map
            obtain ⟨kl1, hkey1⟩ : ∃ kl, keyOf Yba.prog 9 (.string ⟨#[102]⟩) = some kl := ⟨_, Go.WideMaps.keyOf_string_mk Yba.underlying9 (by decide)⟩
            obtain ⟨kl2, hkey2⟩ := key_pair ⟨#[99]⟩ s (by decide) hss
            have HAT := hide hat
            have HD := hide hD
            have hn4 : k % 3 + l ≤ 4 := by omega
            have hmk := make_fw (k % 3 + l) ((k : Int) % 3 + (l : Int)) (by omega) hn4
            have hm1 : Hid (((wr.alloc (.map #[] 0)).alloc (.cells (fwCells (k % 3 + l)) 80)).ownsMap (H := Unit) Yba.prog 9 anyElem wr.heap.size 0 (.map [])) := (World.ownsMap_made wr Yba.prog 9 anyElem).kept (World.grownBy_alloc _ _ none) (by simp)
            have K1 := hide hkey1
            have K2 := hide hkey2
            clear hat hD hkey1 hkey2
            go_wp2_with (first | (at_mapUpdate; refine wpList_mapUpdate_own (H := Unit) _ rfl _ _ _ 50 rfl 9 52 keyed9 Yba.underlying50 anyElem wr.heap.size 0 (.map []) rfl hm1.out (by decide) (.string ⟨#[102]⟩) _ kl1 rfl rfl K1.out _ _ rfl ?_; intro w3 hown3 hgrow3; have hc3 := (At.owned HAT.out HD.out hgrow3).2; have H3 := hide hgrow3; clear hown3 hgrow3) | (at_mapUpdate; refine wpList_mapUpdate_own (H := Unit) _ rfl _ _ _ 25 rfl 49 50 keyed49 Yba.underlying25 anyElem bm0 k D rfl (At.owned HAT.out HD.out H3.out).1 (by unfold maxLen; omega) (.agg #[.string ⟨#[99]⟩, .string s]) _ kl2 rfl rfl K2.out _ _ rfl ?_; intro w4 hown4 hgrow4))
            go_roundw
            case rel => exact ⟨k + 1, by omega, by go_num, HAT.out.laid hne H3.out hgrow4 hown4⟩
            case measure => simp [intOf]; omega
          · have hr' : ((k : Int) % ((l : Int) + 1) != 0) = true := by rw [bne_iff_ne, show ((k : Int) % ((l : Int) + 1)) = ((k % (l + 1) : Nat) : Int) from by simp]; omega
            go_wp2
            go_roundw
            case rel => exact ⟨k + 1, by omega, by go_num, hat.skip⟩
            case measure => simp [intOf]; omega
        · obtain rfl : k = len := by omega
          go_wp2
          go_roundw
          case rel => exact ⟨l + 1, by omega, by go_num, hat.below, .inr ⟨by omega, b0, bm0, k, pp, rfl, hlen, hat⟩⟩
          case measure => simp [intOf]; omega
    · rcases hprev with ⟨rfl, _⟩ | ⟨_, b, bm, k, p, rfl, hk, hat⟩
      · omega
      · have HAT := hide hat
        clear hat
        go_wp2
        go_ret
        exact ⟨b, rfl, bm, k, hk, p, HAT.out⟩
end Go.Proofs.Ybulkantu
