/-
  DERIVED. THE WALKS of the digests: written in hex, and read again.
-/
import Derived.Test.YbulkantuFmtWalks0
import Derived.Test.YbulkantuFmtShelf
import Derived.Lib.ShelfFacts
import Derived.Deep.RegionHeld3
namespace Go.Proofs.YbulkantuFmt
open Go.RowKit Go.Lib Go.Extern.Stop Go.Stop Go.Extern

def hx (x : Int) : ByteArray := ⟨(Hx.encode (Lib.bytesOf (List.replicate 16 x))).toArray⟩

theorem hx_size (x : Int) : (hx x).size = 32 := by
  show (Hx.encode (Lib.bytesOf (List.replicate 16 x))).toArray.size = 32
  rw [List.size_toArray, Hx.encode_length]
  simp [Lib.bytesOf]

theorem rep_get (x : Int) (i : Nat) (hi : i < 16) : (List.replicate 16 x).getD i 0 = x := by
  rw [List.getD_eq_getElem?_getD, List.getElem?_replicate_of_lt hi]
  rfl
theorem rep_cell (w : World) (x : Int) (i : Nat) (hi : i < 16) : (w.alloc (.cells (Array.replicate 16 (.int .u8 x)) 27)).cell? ⟨w.heap.size, 0 + i, none⟩ = some (.int .u8 ((List.replicate 16 x).getD i 0)) := by
  rw [cell_of_row _ w.heap.size (0 + i) _ 27 (0, 0) (heap_alloc_new w _), rep_get x i hi, Nat.zero_add, Array.getElem?_replicate, if_pos hi]

theorem dig_any (x : Int) (w : World) (h0 : 0 ≤ x) (h1 : x ≤ 255) :
    Calls Ybaf.prog 5 #[.int .u8 x] w fun e w' => e = .returned (.string (hx x)) ∧ Below w.heap.size w w' := by
  go_enter Ybaf.func5, Ybaf.ntmps5
  go_wp2_with fail
  refine (chain_any x w).mono ?_
  rintro e w1 ⟨rfl, hb⟩
  have HB := hide hb
  clear hb
  go_wp2_with fail
  refine (Ybaf.hex_EncodeToString w1.heap.size 0 16 16 (List.replicate 16 x) _ (by simp) (fun i hi => by rw [rep_get x i hi]; omega) (by exact fun i hi => rep_cell w1 x i hi) (by simp) (by omega)).mono ?_
  rintro e w2 ⟨rfl, hb2⟩
  have HB2 := hide hb2
  clear hb2
  go_wp2_with fail
  go_ret
  exact ⟨rfl, (HB.out.alloc (HB.out.size) _).trans (HB2.out.mono (by have := HB.out.size; simp; omega))⟩

def zeros : Array Value := #[.int .u8 0, .int .u8 0, .int .u8 0, .int .u8 0, .int .u8 0, .int .u8 0, .int .u8 0, .int .u8 0, .int .u8 0, .int .u8 0, .int .u8 0, .int .u8 0, .int .u8 0, .int .u8 0, .int .u8 0, .int .u8 0]
def nums (l : List UInt8) : List Int := l.map fun b => (b.toNat : Int)
theorem bytesOf_nums (l : List UInt8) : Lib.bytesOf (nums l) = l := by
  unfold Lib.bytesOf nums
  rw [List.map_map]
  conv => rhs; rw [← List.map_id l]
  refine List.map_congr_left fun b _ => ?_
  simp
theorem nums_range (l : List UInt8) (i : Nat) (hi : i < l.length) : 0 ≤ (nums l).getD i 0 ∧ (nums l).getD i 0 < 256 := by
  rw [List.getD_eq_getElem?_getD]
  simp only [nums, List.getElem?_map, List.getElem?_eq_getElem hi, Option.map_some, Option.getD_some]
  have := l[i].toNat_lt
  omega
/-- The digest's bytes, in hex. -/
def hl (x : Int) : List UInt8 := Hx.encode (Lib.bytesOf (List.replicate 16 x))
theorem hl_len (x : Int) : (hl x).length = 32 := by unfold hl; rw [Hx.encode_length]; simp [Lib.bytesOf]
theorem row_get (x : Int) (c i : Nat) (hi : i < 32) : (bytesRow (hx x) c)[i]? = some (.int .u8 ((nums (hl x)).getD i 0)) := by
  have h : i < (hl x).length := by rw [hl_len]; exact hi
  unfold bytesRow hx
  rw [Array.getElem?_append_left (by simpa [hl] using h)]
  simp only [Array.getElem?_map, List.getElem?_toArray]
  show Option.map _ (hl x)[i]? = _
  rw [List.getElem?_eq_getElem h, List.getD_eq_getElem?_getD]
  simp [nums, h]
theorem dec_hl (x : Int) : Hx.decode (hl x) = (Lib.bytesOf (List.replicate 16 x), .ok) := Hx.decode_encode _

theorem zeros_get (i : Nat) (hi : i < 16) : zeros[i]? = some (.int .u8 0) := by
  have : i = 0 ∨ i = 1 ∨ i = 2 ∨ i = 3 ∨ i = 4 ∨ i = 5 ∨ i = 6 ∨ i = 7 ∨ i = 8 ∨ i = 9 ∨ i = 10 ∨ i = 11 ∨ i = 12 ∨ i = 13 ∨ i = 14 ∨ i = 15 := by omega
  rcases this with rfl | rfl | rfl | rfl | rfl | rfl | rfl | rfl | rfl | rfl | rfl | rfl | rfl | rfl | rfl | rfl <;> rfl
/-- The sixteen bytes. -/
def sixteen (x : Int) : List Value := List.replicate 16 (.int .u8 x)
theorem rowP_sixteen (x : Int) (h0 : 0 ≤ x) (h1 : x ≤ 255) (f : Nat → Value) (i : Nat) (hi : i < 16) : Hx.rowP f 0 (Lib.bytesOf (List.replicate 16 x)) i = .int .u8 x := by
  unfold Hx.rowP
  rw [if_pos ⟨Nat.zero_le _, by simpa [Lib.bytesOf] using hi⟩, Nat.sub_zero]
  have : (Lib.bytesOf (List.replicate 16 x))[i]? = some (UInt8.ofNat x.toNat) := by
    rw [Hx.bytes_at _ _ (by simpa using hi), rep_get x i hi]
  rw [this, Option.getD_some, UInt8.toNat_ofNat']
  congr 1
  have : x.toNat % 2 ^ 8 = x.toNat := Nat.mod_eq_of_lt (by omega)
  omega

theorem decode_hl (x : Int) (h0 : 0 ≤ x) (h1 : x ≤ 255) (bd bs c : Nat) (ev : Value) (W : World) (hsrc : ∀ i, i < 32 → W.cell? ⟨bs, 0 + i, none⟩ = some (.int .u8 ((nums (hl x)).getD i 0))) (hdst : W.rowIs bd 27 16 (fun _ => .int .u8 0)) (hne : bd ≠ bs) (hE : W.cell? ⟨0, 0, none⟩ = some ev) (hgb : 0 ≠ bd) :
    Calls Ybaf.prog 16 #[.slice (some ⟨bd, 0, none⟩) 16 16, .slice (some ⟨bs, 0, none⟩) 32 c] W fun e w' => e = .returned (.tuple #[.int .i64 16, .nilIface]) ∧ w'.rangeAt bd 0 (sixteen x) ∧ W.grownBy w' (some bd) := by
  refine (Ybaf.hex_Decode_tag 27 bd 0 16 16 16 (fun _ => .int .u8 0) bs 0 32 c (nums (hl x)) W ev (by simp [nums, hl_len]) (fun i hi => nums_range _ i (by rw [hl_len]; exact hi)) hsrc hdst (by omega) (by omega) hne (by omega) hE hgb).mono ?_
  rintro e w3 ⟨rfl, hrow, hg⟩
  rw [bytesOf_nums, dec_hl] at hrow ⊢
  refine ⟨?_, fun j v hv => ?_, hg⟩
  · show Ending.returned (.tuple #[.int .i64 ((Lib.bytesOf (List.replicate 16 x)).length : Int), .nilIface]) = _
    rw [Lib.bytesOf_length, List.length_replicate]
    rfl
  · have hj : j < 16 := by
      have := (List.getElem?_eq_some_iff.1 hv).1
      unfold sixteen at this
      rwa [List.length_replicate] at this
    rw [Nat.zero_add, hrow.cell hj, rowP_sixteen x h0 h1 _ j hj, ← hv]
    exact (List.getElem?_replicate_of_lt hj).symm

theorem below_setCells {B : Nat} {w0 : World} {b : Nat} : ∀ {w : World}, Below B w0 w → B ≤ b → ∀ (vs : List Value) (o : Nat), Below B w0 (w.setCells b o vs)
  | _, h, _, [], _ => h
  | _, h, hb, v :: r, o => below_setCells (h.setCell (p := ⟨b, o, none⟩) hb v) hb r (o + 1)

set_option maxRecDepth 100000 in
theorem parse_any (x : Int) (ev : Value) (w : World) (h0 : 0 ≤ x) (h1 : x ≤ 255) (hE : w.cell? ⟨0, 0, none⟩ = some ev) :
    Calls Ybaf.prog 11 #[.string (hx x)] w fun e w' => e = .returned (.tuple #[.agg (Array.replicate 16 (.int .u8 x)), .bool true]) ∧ Below w.heap.size w w' := by
  have hsz := hx_size x
  have hcv : ∀ W : World, (convert 9 48 (.string (hx x))).run Ybaf.prog W = .ok (.slice (some ⟨W.heap.size, 0, none⟩) 32 (grownCap W 32 0 5)) (W.drew.alloc (.cells (bytesRow (hx x) (grownCap W 32 0 5)) 5 ((bytesRow (hx x) (grownCap W 32 0 5)).size, (bytesRow (hx x) (grownCap W 32 0 5)).size + 1))) := fun W => by
    have := run_bytes_of_string W 9 48 5 (hx x) Ybaf.underlying9 Ybaf.underlying48 Ybaf.underlying5
    rw [hsz] at this
    exact this
  go_enter Ybaf.func11, Ybaf.ntmps11
  go_wp2_with fail
  refine (Ybaf.hex_EncodedLen 16 (by omega) (by omega) _).mono ?_
  rintro e w1 ⟨rfl, hw1⟩
  have k0 : w1.heap[w.heap.size]? = some (.cells zeros 27) := by rw [hw1]; exact heap_alloc2_old w _ _
  have k1 : w1.heap[w.heap.size + 1]? = some (.cells zeros 27) := by rw [hw1]; exact heap_alloc2_new w _ _
  have k2 : w1.heap.size = w.heap.size + 2 := by rw [hw1]; simp
  have k3 : Below w.heap.size w w1 := by rw [hw1]; exact ((Below.refl _ w).alloc (Nat.le_refl _) _).alloc (by simp) _
  clear hw1
  go_wp2_with fail
  have hlt : 0 < w.heap.size := World.block_lt_of_cell? w ⟨0, 0, none⟩ hE
  have hsrc : ∀ (c : Nat) (fr : Nat × Nat) (i : Nat), i < 32 → (w1.alloc (.cells (bytesRow (hx x) c) 5 fr)).drew.cell? ⟨w.heap.size + 2, 0 + i, none⟩ = some (.int .u8 ((nums (hl x)).getD i 0)) := fun c fr i hi => by
    rw [← k2, Nat.zero_add, ← row_get x c i hi]
    exact cell_of_row _ w1.heap.size i _ 5 _ (heap_alloc_new w1 _)
  have hdst : ∀ o : Obj, (w1.alloc o).drew.rowIs (w.heap.size + 1) 27 16 (fun _ => .int .u8 0) := fun o => by
    refine ⟨zeros, ?_, rfl, fun i hi => zeros_get i hi⟩
    show (w1.alloc _).heap[w.heap.size + 1]? = _
    rw [Below.heap_alloc _ _ _ (by omega)]
    exact k1
  have hev : ∀ o : Obj, (w1.alloc o).drew.cell? ⟨0, 0, none⟩ = some ev := fun o => by
    show (w1.alloc _).cell? _ = _
    rw [((Below.refl _ w1).alloc (Nat.le_refl _) _).cell (p := ⟨0, 0, none⟩) (by show 0 < w1.heap.size; omega), k3.cell (p := ⟨0, 0, none⟩) hlt]
    exact hE
  refine (decode_hl x h0 h1 (w.heap.size + 1) (w.heap.size + 2) _ ev _ (by exact fun i hi => hsrc _ _ i hi) (by exact hdst _) (by omega) (by exact hev _) (by omega)).mono ?_
  rintro e w3 ⟨rfl, k4, hg⟩
  have k5 : w3.heap[w.heap.size]? = some (.cells zeros 27) := by
    rw [hg.block w.heap.size (by show _ < (w1.alloc _).heap.size; simp; omega) (by simp)]
    show (w1.alloc _).heap[w.heap.size]? = _
    rw [Below.heap_alloc _ _ _ (by omega)]
    exact k0
  have k6 : w3.there w.heap.size 0 16 := fun j hj => by
    rw [Nat.zero_add, cell_of_row w3 w.heap.size j _ 27 (0, 0) k5, zeros_get j hj]
    exact ⟨rfl, free_of_row k5⟩
  have k7 : Below w.heap.size w w3 := by
    have hb1 : Below w.heap.size w (w1.alloc (.cells (bytesRow (hx x) (grownCap w1 32 0 5)) 5 ((bytesRow (hx x) (grownCap w1 32 0 5)).size, (bytesRow (hx x) (grownCap w1 32 0 5)).size + 1))).drew := (k3.alloc (by omega) _).drew
    refine hb1.trans ⟨hg.os, hg.tape, hg.output, hg.size, fun k hk => hg.block k ?_ (by simp; omega)⟩
    show _ < (w1.alloc _).heap.size
    simp
    omega
  have K4 := hide k4
  have K6 := hide k6
  have K7 := hide k7
  clear k0 k1 k2 k3 k4 k5 k6 k7 hg hcv hE hlt hsrc hdst hev
  go_wp2_with fail
  have u27 := Ybaf.underlying27
  have n27 : (Ybaf.prog.info? 27).map (·.size) = some (sixteen x).length := by kernel_rfl
  have l27 : (sixteen x).length = 16 := by unfold sixteen; exact List.length_replicate
  have o27 : ∀ v ∈ sixteen x, v.oneCell' = true := by
    intro v hv
    rw [List.eq_of_mem_replicate hv]
    rfl
  have k4 := K4.out
  have k6 := K6.out
  generalize hcs : sixteen x = cs at *
  have HS := hide hcs
  clear hcs K4 K6
  go_region_held3 (fun w' => w'.rangeAt (w.heap.size + 1) 0 cs ∧ w'.there w.heap.size 0 16) (go_keep_ranges) (fail)
  have rr : (w3.drew.setCells w.heap.size 0 cs).rangeAt w.heap.size 0 cs := World.rangeAt_setCells_same _ _ _ _ (by rw [l27]; exact k6)
  have ld := run_loadVar_mid (P := Ybaf.prog) _ w.heap.size 0 27 cs _ rr u27 rfl n27
  have bel : Below w.heap.size w (w3.drew.setCells w.heap.size 0 cs) := below_setCells K7.out.drew (Nat.le_refl _) cs 0
  have LD := hide ld
  have BEL := hide bel
  clear ld bel rr k4 k6 u27 n27 o27
  go_wp2_with fail
  try simp only [Exit.inBlock, Exit.then]
  refine bodyPost_ret (v := .tuple #[.agg cs.toArray, .bool true]) (by
    refine (results_cell_tmp (show Ybaf.f11.results = #[.cell 2 27, .tmp 3] from rfl) _ _ _).trans ?_
    show ((asAddr (.pointer (some ⟨w.heap.size, 0, none⟩))).run Ybaf.prog _).andThen _ = _
    simp only [asAddr, Sem.run_pure, Result.andThen_ok, LD.out]
    rfl) rfl ?_
  exact ⟨by rw [← HS.out]; rfl, BEL.out⟩
end Go.Proofs.YbulkantuFmt
