/-
  DERIVED. THE SHELF's CONTRACTS OF strings.Join AND strconv.Itoa AT THIS SEAT's DUMP (written by the kit's lay-shelf.mjs and lay-plain.mjs for this program; cut down to what the seat's road meets).
-/
import Derived.Shelf.Strings.OnBuilder
import Derived.Shelf.LaysM
import Derived.Shelf.Strconv.Itoa3
import Derived.Test.YbulkantgFmtRows
namespace Go.Proofs
open Go.Shelf
def Ybaf.lays156_ren : Go.Shelf.Ren := ⟨fun | 156 => 12 | 165 => 17 | 166 => 18 | 169 => 19 | 240 => 21 | 241 => 22 | 276 => 24 | 277 => 25 | n => n, fun | 31 => 35 | 9 => 9 | 3 => 3 | 4 => 4 | 0 => 0 | 20 => 20 | 72 => 52 | 76 => 54 | 70 => 49 | 37 => 50 | 75 => 24 | 127 => 56 | 164 => 58 | 5 => 5 | 80 => 39 | n => n, fun | n => n⟩
theorem Ybaf.lays156 : Go.Proofs.Lays.n156 Ybaf.prog Ybaf.lays156_ren := {
  mixed := by kernel_rfl
  f156 := Ybaf.func12.trans (congrArg some (by kernel_rfl))
  f165 := Ybaf.func17.trans (congrArg some (by kernel_rfl))
  f166 := Ybaf.func18.trans (congrArg some (by kernel_rfl))
  f169 := Ybaf.func19.trans (congrArg some (by kernel_rfl))
  f240 := Ybaf.func21.trans (congrArg some (by kernel_rfl))
  f241 := Ybaf.func22.trans (congrArg some (by kernel_rfl))
  f276 := Ybaf.func24.trans (congrArg some (by kernel_rfl))
  f277 := Ybaf.func25.trans (congrArg some (by kernel_rfl))
  t0 := Ybaf.underlying0
  a0 := Ybaf.isAgg0
  z0 := Ybaf.sizeOf0
  v0 := Ybaf.zeroValue0
  t3 := Ybaf.underlying3
  a3 := Ybaf.isAgg3
  z3 := Ybaf.sizeOf3
  v3 := Ybaf.zeroValue3
  t4 := Ybaf.underlying4
  a4 := Ybaf.isAgg4
  z4 := Ybaf.sizeOf4
  v4 := Ybaf.zeroValue4
  t9 := Ybaf.underlying9
  a9 := Ybaf.isAgg9
  z9 := Ybaf.sizeOf9
  v9 := Ybaf.zeroValue9
  t20 := Ybaf.underlying20
  a20 := Ybaf.isAgg20
  z20 := Ybaf.sizeOf20
  v20 := Ybaf.zeroValue20
  t31 := Ybaf.underlying35
  a31 := Ybaf.isAgg35
  z31 := Ybaf.sizeOf35
  v31 := Ybaf.zeroValue35
  t37 := Ybaf.underlying50
  a37 := Ybaf.isAgg50
  z37 := Ybaf.sizeOf50
  v37 := Ybaf.zeroValue50
  t70 := Ybaf.underlying49
  a70 := Ybaf.isAgg49
  z70 := Ybaf.sizeOf49
  v70 := Ybaf.zeroValue49
  t72 := Ybaf.underlying52
  a72 := Ybaf.isAgg52
  z72 := Ybaf.sizeOf52
  v72 := Ybaf.zeroValue52
  t75 := Ybaf.underlying24
  a75 := Ybaf.isAgg24
  z75 := Ybaf.sizeOf24
  v75 := Ybaf.zeroValue24
  t76 := Ybaf.underlying54
  a76 := Ybaf.isAgg54
  z76 := Ybaf.sizeOf54
  v76 := Ybaf.zeroValue54
  t127 := Ybaf.underlying56
  a127 := Ybaf.isAgg56
  z127 := Ybaf.sizeOf56
  v127 := Ybaf.zeroValue56
  t164 := Ybaf.underlying58
  a164 := Ybaf.isAgg58
  z164 := Ybaf.sizeOf58
  v164 := Ybaf.zeroValue58 }
theorem Ybaf.Builder_Extra_156 : Builder.Extra Ybaf.prog Ybaf.lays156_ren := {
  sizeBuilder := by kernel_rfl
  liesBuilder := by kernel_rfl
  t5 := Ybaf.underlying5
  a5 := Ybaf.isAgg5
  z5 := Ybaf.sizeOf5
  v5 := Ybaf.zeroValue5
  infoByte := by kernel_rfl
  cellsByte := by kernel_rfl
  sizeByte := by kernel_rfl
  neB5 := by decide }
open Go.RowKit in
/-- No element: the empty string; the world is as it was. (Whatever the slice's address and capacity: a nil slice too.) (LAID: no walk: one application.) -/
theorem Ybaf.strings_Join_none (a : Option Addr) (c : Nat) (sep : ByteArray) (w : World) :
    Calls Ybaf.prog 12 #[.slice a 0 c, .string sep] w fun e w' => e = .returned (.string ⟨#[]⟩) ∧ w' = w := Any.strings_Join_none Ybaf.lays156 Ybaf.Builder_Extra_156 a c sep w
open Go.RowKit in
/-- strings.Join: "Join concatenates the elements of its first argument to create a single string. The separator string sep is placed between elements in the resulting string.": HOWEVER MANY ELEMENTS. Below the heap's end the world is as it was. (LAID: no walk: one application.) -/
theorem Ybaf.strings_Join (bk o c : Nat) (xs : List ByteArray) (sep : ByteArray) (w : World) (hcells : ∀ (j : Nat) x, xs[j]? = some x → w.cell? ⟨bk, o + j, none⟩ = some (.string x)) (hbk : bk < w.heap.size) (hN : xs.length ≤ 140737488355328) (hcap : xs.length ≤ c) (hlen : (Lib.join (xs.map (·.data.toList)) sep.data.toList).length ≤ 140737488355328) :
    Calls Ybaf.prog 12 #[.slice (some ⟨bk, o, none⟩) xs.length c, .string sep] w fun e w' => e = .returned (.string ⟨(Lib.join (xs.map (·.data.toList)) sep.data.toList).toArray⟩) ∧ Below w.heap.size w w' := Any.strings_Join Ybaf.lays156 Ybaf.Builder_Extra_156 bk o c xs sep w hcells hbk hN hcap hlen
def Ybaf.laysM171_ren : Go.Shelf.Ren := ⟨fun | 171 => 14 | 243 => 20 | 246 => 23 | 283 => 26 | 284 => 27 | 285 => 28 | 286 => 29 | 129 => 31 | 317 => 30 | 318 => 32 | 319 => 33 | 320 => 34 | 337 => 35 | 338 => 36 | n => n, fun | 3 => 3 | 9 => 9 | 2 => 2 | 4 => 4 | 171 => 61 | 0 => 0 | 53 => 62 | 37 => 50 | 5 => 5 | 173 => 65 | 212 => 69 | 51 => 22 | 20 => 20 | 213 => 70 | 46 => 72 | 232 => 75 | 233 => 76 | n => n, fun | 17 => 2 | 18 => 3 | 19 => 4 | n => n⟩
theorem Ybaf.laysM171 : Go.Proofs.LaysM.n171 Ybaf.prog Ybaf.laysM171_ren := {
  mixed := by kernel_rfl
  f129 := Ybaf.func31.trans (congrArg some (by kernel_rfl))
  f171 := Ybaf.func14.trans (congrArg some (by kernel_rfl))
  f243 := Ybaf.func20.trans (congrArg some (by kernel_rfl))
  f246 := Ybaf.func23.trans (congrArg some (by kernel_rfl))
  f283 := Ybaf.func26.trans (congrArg some (by kernel_rfl))
  f284 := Ybaf.func27.trans (congrArg some (by kernel_rfl))
  f285 := Ybaf.func28.trans (congrArg some (by kernel_rfl))
  f286 := Ybaf.func29.trans (congrArg some (by kernel_rfl))
  f317 := Ybaf.func30.trans (congrArg some (by kernel_rfl))
  f318 := Ybaf.func32.trans (congrArg some (by kernel_rfl))
  f319 := Ybaf.func33.trans (congrArg some (by kernel_rfl))
  f320 := Ybaf.func34.trans (congrArg some (by kernel_rfl))
  f337 := Ybaf.func35.trans (congrArg some (by kernel_rfl))
  f338 := Ybaf.func36.trans (congrArg some (by kernel_rfl))
  t0 := Ybaf.underlying0
  a0 := Ybaf.isAgg0
  z0 := Ybaf.sizeOf0
  v0 := Ybaf.zeroValue0
  t2 := Ybaf.underlying2
  a2 := Ybaf.isAgg2
  z2 := Ybaf.sizeOf2
  v2 := Ybaf.zeroValue2
  t3 := Ybaf.underlying3
  a3 := Ybaf.isAgg3
  z3 := Ybaf.sizeOf3
  v3 := Ybaf.zeroValue3
  t4 := Ybaf.underlying4
  a4 := Ybaf.isAgg4
  z4 := Ybaf.sizeOf4
  v4 := Ybaf.zeroValue4
  t5 := Ybaf.underlying5
  a5 := Ybaf.isAgg5
  z5 := Ybaf.sizeOf5
  v5 := Ybaf.zeroValue5
  t9 := Ybaf.underlying9
  a9 := Ybaf.isAgg9
  z9 := Ybaf.sizeOf9
  v9 := Ybaf.zeroValue9
  t20 := Ybaf.underlying20
  a20 := Ybaf.isAgg20
  z20 := Ybaf.sizeOf20
  v20 := Ybaf.zeroValue20
  t37 := Ybaf.underlying50
  a37 := Ybaf.isAgg50
  z37 := Ybaf.sizeOf50
  v37 := Ybaf.zeroValue50
  t46 := Ybaf.underlying72
  a46 := Ybaf.isAgg72
  z46 := Ybaf.sizeOf72
  v46 := Ybaf.zeroValue72
  t51 := Ybaf.underlying22
  a51 := Ybaf.isAgg22
  z51 := Ybaf.sizeOf22
  v51 := Ybaf.zeroValue22
  t53 := Ybaf.underlying62
  a53 := Ybaf.isAgg62
  z53 := Ybaf.sizeOf62
  v53 := Ybaf.zeroValue62
  t171 := Ybaf.underlying61
  a171 := Ybaf.isAgg61
  z171 := Ybaf.sizeOf61
  v171 := Ybaf.zeroValue61
  t173 := Ybaf.underlying65
  a173 := Ybaf.isAgg65
  z173 := Ybaf.sizeOf65
  v173 := Ybaf.zeroValue65
  t212 := Ybaf.underlying69
  a212 := Ybaf.isAgg69
  z212 := Ybaf.sizeOf69
  v212 := Ybaf.zeroValue69
  t213 := Ybaf.underlying70
  a213 := Ybaf.isAgg70
  z213 := Ybaf.sizeOf70
  t232 := Ybaf.underlying75
  a232 := Ybaf.isAgg75
  z232 := Ybaf.sizeOf75
  v232 := Ybaf.zeroValue75
  t233 := Ybaf.underlying76
  a233 := Ybaf.isAgg76
  z233 := Ybaf.sizeOf76
  v233 := Ybaf.zeroValue76
  g17 := by kernel_rfl
  g18 := by kernel_rfl
  g19 := by kernel_rfl
  i0 := by kernel_rfl
  i2 := by kernel_rfl
  i3 := by kernel_rfl
  i4 := by kernel_rfl
  i5 := by kernel_rfl
  i9 := by kernel_rfl
  i20 := by kernel_rfl
  i37 := by kernel_rfl
  i46 := by kernel_rfl
  i51 := by kernel_rfl
  i53 := by kernel_rfl
  i171 := by kernel_rfl
  i173 := by kernel_rfl
  i212 := by kernel_rfl
  i232 := by kernel_rfl
  i233 := by kernel_rfl
  m17 := by kernel_rfl
  m18 := by kernel_rfl
  m19 := by kernel_rfl }

/-- The name of the library's table of powers, as the row lists it. -/
def Ybaf.powName : String := ((YbulkantgFmt.Rows.lawS1969BRefusesRow.laid.drop 2).headD (default, .agg [])).1
open Go.RowKit Go.Sort Go.Lib in
/-- strconv.Itoa: its argument's decimal numeral. (Laid: one application.) -/
theorem Ybaf.strconv_Itoa (n : Int) (h0 : -9223372036854775808 ≤ n) (h1 : n ≤ 9223372036854775807) (w : World) (htab : Lib.TabIs Ybaf.prog w Ybaf.powName .u64 Lib.pow10Tab) :
    Calls Ybaf.prog 14 #[.int .i64 n] w fun e w' => e = .returned (.string ⟨(Lib.itoa n).toArray⟩) ∧ ∃ k os, w' = grow (w.drewN k) os := Any.strconv_Itoa Ybaf.laysM171 n h0 h1 w htab
def Ybaf.lays171_ren : Go.Shelf.Ren := ⟨fun | 171 => 14 | 243 => 20 | 246 => 23 | 283 => 26 | 284 => 27 | 285 => 28 | 286 => 29 | 129 => 31 | 317 => 30 | 318 => 32 | 319 => 33 | 320 => 34 | 337 => 35 | 338 => 36 | n => n, fun | 3 => 3 | 9 => 9 | 2 => 2 | 4 => 4 | 171 => 61 | 0 => 0 | 53 => 62 | 37 => 50 | 5 => 5 | 173 => 65 | 212 => 69 | 51 => 22 | 20 => 20 | 213 => 70 | 46 => 72 | 232 => 75 | 233 => 76 | n => n, fun | 17 => 2 | 18 => 3 | 19 => 4 | n => n⟩
theorem Ybaf.lays171 : Go.Proofs.Lays.n171 Ybaf.prog Ybaf.lays171_ren := {
  mixed := by kernel_rfl
  f129 := Ybaf.func31.trans (congrArg some (by kernel_rfl))
  f171 := Ybaf.func14.trans (congrArg some (by kernel_rfl))
  f243 := Ybaf.func20.trans (congrArg some (by kernel_rfl))
  f246 := Ybaf.func23.trans (congrArg some (by kernel_rfl))
  f283 := Ybaf.func26.trans (congrArg some (by kernel_rfl))
  f284 := Ybaf.func27.trans (congrArg some (by kernel_rfl))
  f285 := Ybaf.func28.trans (congrArg some (by kernel_rfl))
  f286 := Ybaf.func29.trans (congrArg some (by kernel_rfl))
  f317 := Ybaf.func30.trans (congrArg some (by kernel_rfl))
  f318 := Ybaf.func32.trans (congrArg some (by kernel_rfl))
  f319 := Ybaf.func33.trans (congrArg some (by kernel_rfl))
  f320 := Ybaf.func34.trans (congrArg some (by kernel_rfl))
  f337 := Ybaf.func35.trans (congrArg some (by kernel_rfl))
  f338 := Ybaf.func36.trans (congrArg some (by kernel_rfl))
  t0 := Ybaf.underlying0
  a0 := Ybaf.isAgg0
  z0 := Ybaf.sizeOf0
  v0 := Ybaf.zeroValue0
  t2 := Ybaf.underlying2
  a2 := Ybaf.isAgg2
  z2 := Ybaf.sizeOf2
  v2 := Ybaf.zeroValue2
  t3 := Ybaf.underlying3
  a3 := Ybaf.isAgg3
  z3 := Ybaf.sizeOf3
  v3 := Ybaf.zeroValue3
  t4 := Ybaf.underlying4
  a4 := Ybaf.isAgg4
  z4 := Ybaf.sizeOf4
  v4 := Ybaf.zeroValue4
  t5 := Ybaf.underlying5
  a5 := Ybaf.isAgg5
  z5 := Ybaf.sizeOf5
  v5 := Ybaf.zeroValue5
  t9 := Ybaf.underlying9
  a9 := Ybaf.isAgg9
  z9 := Ybaf.sizeOf9
  v9 := Ybaf.zeroValue9
  t20 := Ybaf.underlying20
  a20 := Ybaf.isAgg20
  z20 := Ybaf.sizeOf20
  v20 := Ybaf.zeroValue20
  t37 := Ybaf.underlying50
  a37 := Ybaf.isAgg50
  z37 := Ybaf.sizeOf50
  v37 := Ybaf.zeroValue50
  t46 := Ybaf.underlying72
  a46 := Ybaf.isAgg72
  z46 := Ybaf.sizeOf72
  v46 := Ybaf.zeroValue72
  t51 := Ybaf.underlying22
  a51 := Ybaf.isAgg22
  z51 := Ybaf.sizeOf22
  v51 := Ybaf.zeroValue22
  t53 := Ybaf.underlying62
  a53 := Ybaf.isAgg62
  z53 := Ybaf.sizeOf62
  v53 := Ybaf.zeroValue62
  t171 := Ybaf.underlying61
  a171 := Ybaf.isAgg61
  z171 := Ybaf.sizeOf61
  v171 := Ybaf.zeroValue61
  t173 := Ybaf.underlying65
  a173 := Ybaf.isAgg65
  z173 := Ybaf.sizeOf65
  v173 := Ybaf.zeroValue65
  t212 := Ybaf.underlying69
  a212 := Ybaf.isAgg69
  z212 := Ybaf.sizeOf69
  v212 := Ybaf.zeroValue69
  t213 := Ybaf.underlying70
  a213 := Ybaf.isAgg70
  z213 := Ybaf.sizeOf70
  t232 := Ybaf.underlying75
  a232 := Ybaf.isAgg75
  z232 := Ybaf.sizeOf75
  v232 := Ybaf.zeroValue75
  t233 := Ybaf.underlying76
  a233 := Ybaf.isAgg76
  z233 := Ybaf.sizeOf76
  v233 := Ybaf.zeroValue76
  g17 := by kernel_rfl
  g18 := by kernel_rfl
  g19 := by kernel_rfl }
open Go.RowKit Go.Sort Go.Lib in
/-- THE ROAD WITHOUT THE TABLE: 0 <= i < 100: NO PREMISE ON THE WORLD, AND THE WORLD IS AS IT WAS: a row that keeps its argument in that range need list no table ('laid = []'). (LAID: no walk: one application.) -/
theorem Ybaf.strconv_Itoa_small (i : Nat) (hi : i < 100) (w : World) :
    Calls Ybaf.prog 14 #[.int .i64 i] w fun e w' => e = .returned (.string ⟨(Lib.decDigits i).toArray⟩) ∧ w' = w := Any.strconv_Itoa_small Ybaf.lays171 i hi w
end Go.Proofs
