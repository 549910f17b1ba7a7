/-
  DERIVED. THE SHELF's CONTRACTS OF encoding hex AT THIS SEAT's DUMP (written by the kit's lay-shelf.mjs and lay-plain.mjs for this program).
-/
import Derived.Ground.PaProg
import Derived.Shelf.Hex.Tagged
import Derived.Shelf.Hex.Lens
import Derived.Shelf.Hex.Encode
import Derived.Test.YbulkantuFmtRows
namespace Go.Proofs
open Go.Shelf
def Ybaf.laysPa40_ren : Go.Shelf.Ren := ⟨fun | 40 => 13 | n => n, fun | 30 => 48 | 3 => 3 | 0 => 0 | 5 => 5 | 46 => 82 | 9 => 9 | n => n, fun | n => n⟩
theorem Ybaf.laysPa40 : Go.Proofs.Lays.p40 Ybaf.prog Ybaf.laysPa40_ren := {
  mixed := by kernel_rfl
  f40 := Ybaf.func13.trans (congrArg some (by kernel_rfl))
  t0 := Ybaf.underlying0
  a0 := Ybaf.isAgg0
  z0 := Ybaf.sizeOf0
  v0 := Ybaf.zeroValue0
  t3 := Ybaf.underlying3
  a3 := Ybaf.isAgg3
  z3 := Ybaf.sizeOf3
  v3 := Ybaf.zeroValue3
  t5 := Ybaf.underlying5
  a5 := Ybaf.isAgg5
  z5 := Ybaf.sizeOf5
  v5 := Ybaf.zeroValue5
  t9 := Ybaf.underlying9
  a9 := Ybaf.isAgg9
  z9 := Ybaf.sizeOf9
  v9 := Ybaf.zeroValue9
  t30 := Ybaf.underlying48
  a30 := Ybaf.isAgg48
  z30 := Ybaf.sizeOf48
  v30 := Ybaf.zeroValue48
  t46 := Ybaf.underlying82
  a46 := Ybaf.isAgg82
  z46 := Ybaf.sizeOf82
  v46 := Ybaf.zeroValue82 }
open Go.RowKit Go.Lib in
theorem Ybaf.hex_Encode_tag (T : TypeId) (bd od nd cd N : Nat) (f : Nat → Value) (bs os n cs : Nat) (xs : List Int) (w : World) (hx : xs.length = n) (hr : ∀ i, i < n → 0 ≤ xs.getD i 0 ∧ xs.getD i 0 < 256) (hsrc : ∀ i, i < n → w.cell? ⟨bs, os + i, none⟩ = some (.int .u8 (xs.getD i 0))) (hrow : w.rowIs bd T N f) (hfit : od + nd ≤ N) (hlen : 2 * n ≤ nd) (hne : bd ≠ bs) (hbig : n ≤ 4611686018427387903) :
    Calls Ybaf.prog 13 #[.slice (some ⟨bd, od, none⟩) nd cd, .slice (some ⟨bs, os, none⟩) n cs] w fun e w' => e = .returned (.int .i64 ((n : Int) * 2)) ∧ w'.rowIs bd T N (Hx.row f od (Lib.bytesOf xs) n) ∧ w.grownBy w' (some bd) := Any.hex_Encode_tag Ybaf.laysPa40 T bd od nd cd N f bs os n cs xs w hx hr hsrc hrow hfit hlen hne hbig
def Ybaf.laysPa44_ren : Go.Shelf.Ren := ⟨fun | 44 => 16 | n => n, fun | 30 => 48 | 3 => 3 | 35 => 57 | 4 => 4 | 0 => 0 | 5 => 5 | 9 => 9 | 47 => 86 | 46 => 82 | 45 => 88 | n => n, fun | 0 => 0 | n => n⟩
theorem Ybaf.laysPa44 : Go.Proofs.Lays.p44 Ybaf.prog Ybaf.laysPa44_ren := {
  mixed := by kernel_rfl
  f44 := Ybaf.func16.trans (congrArg some (by kernel_rfl))
  t0 := Ybaf.underlying0
  a0 := Ybaf.isAgg0
  z0 := Ybaf.sizeOf0
  v0 := Ybaf.zeroValue0
  t3 := Ybaf.underlying3
  a3 := Ybaf.isAgg3
  z3 := Ybaf.sizeOf3
  v3 := Ybaf.zeroValue3
  t4 := Ybaf.underlying4
  a4 := Ybaf.isAgg4
  z4 := Ybaf.sizeOf4
  v4 := Ybaf.zeroValue4
  t5 := Ybaf.underlying5
  a5 := Ybaf.isAgg5
  z5 := Ybaf.sizeOf5
  v5 := Ybaf.zeroValue5
  t9 := Ybaf.underlying9
  a9 := Ybaf.isAgg9
  z9 := Ybaf.sizeOf9
  v9 := Ybaf.zeroValue9
  t30 := Ybaf.underlying48
  a30 := Ybaf.isAgg48
  z30 := Ybaf.sizeOf48
  v30 := Ybaf.zeroValue48
  t35 := Ybaf.underlying57
  a35 := Ybaf.isAgg57
  z35 := Ybaf.sizeOf57
  v35 := Ybaf.zeroValue57
  t45 := Ybaf.underlying88
  a45 := Ybaf.isAgg88
  z45 := Ybaf.sizeOf88
  v45 := Ybaf.zeroValue88
  t46 := Ybaf.underlying82
  a46 := Ybaf.isAgg82
  z46 := Ybaf.sizeOf82
  v46 := Ybaf.zeroValue82
  t47 := Ybaf.underlying86
  a47 := Ybaf.isAgg86
  z47 := Ybaf.sizeOf86
  v47 := Ybaf.zeroValue86
  g0 := by kernel_rfl }
open Go.RowKit Go.Lib in
theorem Ybaf.hex_Decode_tag (T : TypeId) (bd od nd cd N : Nat) (f : Nat → Value) (bs os n cs : Nat) (xs : List Int) (w : World) (ev : Value) (hx : xs.length = n) (hr : ∀ i, i < n → 0 ≤ xs.getD i 0 ∧ xs.getD i 0 < 256) (hsrc : ∀ i, i < n → w.cell? ⟨bs, os + i, none⟩ = some (.int .u8 (xs.getD i 0))) (hrow : w.rowIs bd T N f) (hfit : od + nd ≤ N) (hlen : n / 2 ≤ nd) (hne : bd ≠ bs) (hbig : n ≤ 4611686018427387903) (hE : w.cell? ⟨0, 0, none⟩ = some ev) (hgb : 0 ≠ bd) :
    Calls Ybaf.prog 16 #[.slice (some ⟨bd, od, none⟩) nd cd, .slice (some ⟨bs, os, none⟩) n cs] w fun e w' =>
      e = .returned (.tuple #[.int .i64 ((Hx.decode (Lib.bytesOf xs)).1.length : Int), Hx.errVal 86 ev (Hx.decode (Lib.bytesOf xs)).2]) ∧ w'.rowIs bd T N (Hx.rowP f od (Hx.decode (Lib.bytesOf xs)).1) ∧ w.grownBy w' (some bd) := Any.hex_Decode_tag Ybaf.laysPa44 T bd od nd cd N f bs os n cs xs w ev hx hr hsrc hrow hfit hlen hne hbig hE hgb
def Ybaf.laysPa41_ren : Go.Shelf.Ren := ⟨fun | 41 => 12 | n => n, fun | 3 => 3 | n => n, fun | n => n⟩
theorem Ybaf.laysPa41 : Go.Proofs.Lays.p41 Ybaf.prog Ybaf.laysPa41_ren := {
  mixed := by kernel_rfl
  f41 := Ybaf.func12.trans (congrArg some (by kernel_rfl))
  t3 := Ybaf.underlying3
  a3 := Ybaf.isAgg3
  z3 := Ybaf.sizeOf3
  v3 := Ybaf.zeroValue3 }
open Go.RowKit Go.Lib in
theorem Ybaf.hex_EncodedLen (n : Int) (h0 : 0 ≤ n) (h1 : n < 4611686018427387904) (w : World) :
    Calls Ybaf.prog 12 #[.int .i64 n] w fun e w' => e = .returned (.int .i64 (n * 2)) ∧ w' = w := Any.hex_EncodedLen Ybaf.laysPa41 n h0 h1 w
open Go.RowKit Go.Lib in
theorem Ybaf.hex_Encode (bd od nd cd N : Nat) (f : Nat → Value) (bs os n cs : Nat) (xs : List Int) (w : World) (hx : xs.length = n) (hr : ∀ i, i < n → 0 ≤ xs.getD i 0 ∧ xs.getD i 0 < 256) (hsrc : ∀ i, i < n → w.cell? ⟨bs, os + i, none⟩ = some (.int .u8 (xs.getD i 0))) (hrow : w.rowIs bd 5 N f) (hfit : od + nd ≤ N) (hlen : 2 * n ≤ nd) (hne : bd ≠ bs) (hbig : n ≤ 4611686018427387903) :
    Calls Ybaf.prog 13 #[.slice (some ⟨bd, od, none⟩) nd cd, .slice (some ⟨bs, os, none⟩) n cs] w fun e w' => e = .returned (.int .i64 ((n : Int) * 2)) ∧ w'.rowIs bd 5 N (Hx.row f od (Lib.bytesOf xs) n) ∧ w.grownBy w' (some bd) := Any.hex_Encode Ybaf.laysPa40 bd od nd cd N f bs os n cs xs w hx hr hsrc hrow hfit hlen hne hbig
def Ybaf.laysPah39_ren : Go.Shelf.Ren := ⟨fun | 39 => 8 | 41 => 12 | 40 => 13 | n => n, fun | 30 => 48 | 9 => 9 | 3 => 3 | 0 => 0 | 5 => 5 | 46 => 82 | n => n, fun | n => n⟩
theorem Ybaf.laysPah39 : Go.Proofs.Lays.ph39 Ybaf.prog Ybaf.laysPah39_ren := {
  mixed := by kernel_rfl
  f39 := Ybaf.func8.trans (congrArg some (by kernel_rfl))
  f40 := Ybaf.func13.trans (congrArg some (by kernel_rfl))
  f41 := Ybaf.func12.trans (congrArg some (by kernel_rfl))
  t0 := Ybaf.underlying0
  a0 := Ybaf.isAgg0
  z0 := Ybaf.sizeOf0
  v0 := Ybaf.zeroValue0
  t3 := Ybaf.underlying3
  a3 := Ybaf.isAgg3
  z3 := Ybaf.sizeOf3
  v3 := Ybaf.zeroValue3
  t5 := Ybaf.underlying5
  a5 := Ybaf.isAgg5
  z5 := Ybaf.sizeOf5
  v5 := Ybaf.zeroValue5
  t9 := Ybaf.underlying9
  a9 := Ybaf.isAgg9
  z9 := Ybaf.sizeOf9
  v9 := Ybaf.zeroValue9
  t30 := Ybaf.underlying48
  a30 := Ybaf.isAgg48
  z30 := Ybaf.sizeOf48
  v30 := Ybaf.zeroValue48
  t46 := Ybaf.underlying82
  a46 := Ybaf.isAgg82
  z46 := Ybaf.sizeOf82
  v46 := Ybaf.zeroValue82
  info5 := by kernel_rfl }
open Go.RowKit Go.Lib in
theorem Ybaf.hex_EncodeToString (bs os n cs : Nat) (xs : List Int) (w : World) (hx : xs.length = n) (hr : ∀ i, i < n → 0 ≤ xs.getD i 0 ∧ xs.getD i 0 < 256) (hsrc : ∀ i, i < n → w.cell? ⟨bs, os + i, none⟩ = some (.int .u8 (xs.getD i 0))) (hb : bs < w.heap.size) (hbig : 2 * n ≤ 281474976710656) :
    Calls Ybaf.prog 8 #[.slice (some ⟨bs, os, none⟩) n cs] w fun e w' => e = .returned (.string ⟨(Hx.encode (Lib.bytesOf xs)).toArray⟩) ∧ Below w.heap.size w w' := Any.hex_EncodeToString Ybaf.laysPah39 bs os n cs xs w hx hr hsrc hb hbig
open Go.RowKit Go.Lib in
theorem Ybaf.hex_Encode_nil (dst : Value) (w : World) :
    Calls Ybaf.prog 13 #[dst, .slice none 0 0] w fun e w' => e = .returned (.int .i64 0) ∧ w' = w := Any.hex_Encode_nil Ybaf.laysPa40 dst w
open Go.RowKit Go.Lib in
theorem Ybaf.hex_EncodeToString_nil (w : World) :
    Calls Ybaf.prog 8 #[.slice none 0 0] w fun e w' => e = .returned (.string ⟨#[]⟩) ∧ Below w.heap.size w w' := Any.hex_EncodeToString_nil Ybaf.laysPah39 w
end Go.Proofs
