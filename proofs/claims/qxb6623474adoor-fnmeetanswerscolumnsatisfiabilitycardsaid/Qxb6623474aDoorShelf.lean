/-
  THE SHELF's CONTRACTS LAID AT THIS DUMP (by the kit's lay-shelf.mjs and lay-plain.mjs, for this program): (*strings.Builder).String, strconv.FormatInt at base 10.
-/
import Derived.Shelf.Strings.Builder1
import Derived.Shelf.Strings.BuilderK
import Derived.Shelf.LaysM
import Derived.Shelf.Strconv.Itoa4
import Derived.Test.Qxb6623474aDoorProg
set_option linter.unusedVariables false
namespace Go.Proofs.Qxb6623474aDoor
open Go.Shelf
def Tryd.lays169_ren : Go.Shelf.Ren := ⟨fun | 169 => 24 | n => n, fun | 70 => 66 | 9 => 9 | 0 => 0 | 72 => 69 | 37 => 67 | 127 => 80 | 3 => 3 | 5 => 5 | n => n, fun | n => n⟩
theorem Tryd.lays169 : Go.Proofs.Lays.n169 Tryd.prog Tryd.lays169_ren := {
  mixed := by kernel_rfl
  f169 := Tryd.func24.trans (congrArg some (by kernel_rfl))
  t0 := Tryd.underlying0
  a0 := Tryd.isAgg0
  z0 := Tryd.sizeOf0
  v0 := Tryd.zeroValue0
  t3 := Tryd.underlying3
  a3 := Tryd.isAgg3
  z3 := Tryd.sizeOf3
  v3 := Tryd.zeroValue3
  t9 := Tryd.underlying9
  a9 := Tryd.isAgg9
  z9 := Tryd.sizeOf9
  v9 := Tryd.zeroValue9
  t37 := Tryd.underlying67
  a37 := Tryd.isAgg67
  z37 := Tryd.sizeOf67
  v37 := Tryd.zeroValue67
  t70 := Tryd.underlying66
  a70 := Tryd.isAgg66
  z70 := Tryd.sizeOf66
  v70 := Tryd.zeroValue66
  t72 := Tryd.underlying69
  a72 := Tryd.isAgg69
  z72 := Tryd.sizeOf69
  v72 := Tryd.zeroValue69
  t127 := Tryd.underlying80
  a127 := Tryd.isAgg80
  z127 := Tryd.sizeOf80
  v127 := Tryd.zeroValue80 }
theorem Tryd.Builder_Extra_169 : Builder.Extra Tryd.prog Tryd.lays169_ren := {
  sizeBuilder := by kernel_rfl
  liesBuilder := by kernel_rfl
  t5 := Tryd.underlying5
  a5 := Tryd.isAgg5
  z5 := Tryd.sizeOf5
  v5 := Tryd.zeroValue5
  infoByte := by kernel_rfl
  cellsByte := by kernel_rfl
  sizeByte := by kernel_rfl
  neB5 := by decide }
open Go.RowKit in
/-- (*strings.Builder).String: "String returns the accumulated string.": OF A BUILDER THAT HOLDS AT LEAST ONE BYTE. ✋ THE MODEL FREEZES THOSE BYTES IN THE BUFFER (un-safe.String): a later write INTO them ends the model's run without an answer; a later append BEHIND them goes on. The statement's order of evaluation is drawn: one draw. (LAID: no walk: one application.) -/
theorem Tryd.Builder_String (B b : Nat) (l : List UInt8) (w : World) (h : Lib.IsBuilder 69 5 B b (Lib.byteCells l) w) (h0 : l ≠ []) :
    Calls Tryd.prog 24 #[.pointer (some ⟨b, 0, none⟩)] w fun e w' => e = .returned (.string ⟨l.toArray⟩) ∧ Below B w w' := Any.Builder_String Tryd.lays169 Tryd.Builder_Extra_169 B b l w h h0
open Go.RowKit in
/-- (*strings.Builder).String OF A BUILDER THAT HOLDS NO BYTE: the empty string. (Its buffer is nil, or a row of which it has taken nothing yet; where that row has NO capacity the model lays one new block for un-safe.SliceData's 'some address'.) One draw. (LAID: no walk: one application.) -/
theorem Tryd.Builder_String_empty (B b : Nat) (w : World) (h : Lib.IsBuilder 69 5 B b [] w) (hBw : B ≤ w.heap.size) :
    Calls Tryd.prog 24 #[.pointer (some ⟨b, 0, none⟩)] w fun e w' => e = .returned (.string ⟨#[]⟩) ∧ Below B w w' := Any.Builder_String_empty Tryd.lays169 Tryd.Builder_Extra_169 B b w h hBw
open Go.RowKit in
/-- (*strings.Builder).String: "String returns the accumulated string.": WHATEVER THE BUILDER HOLDS. (LAID: no walk: one application.) -/
theorem Tryd.Builder_String_any (B b : Nat) (l : List UInt8) (w : World) (h : Lib.IsBuilder 69 5 B b (Lib.byteCells l) w) (hBw : B ≤ w.heap.size) :
    Calls Tryd.prog 24 #[.pointer (some ⟨b, 0, none⟩)] w fun e w' => e = .returned (.string ⟨l.toArray⟩) ∧ Below B w w' := Any.Builder_String_any Tryd.lays169 Tryd.Builder_Extra_169 B b l w h hBw
open Go.RowKit in
/-- (*strings.Builder).String: "String returns the accumulated string.": WHATEVER THE BUILDER HOLDS; THE FORM '_k': OVER 'Lib.IsBuilderF' (a builder that 'String()' may have read), AND WITH THE FRAME THAT REACHES ABOVE THE BUILDER: 'Lib.OthersKept': every block that is not b and is no row of uint8's stands as it stood: the iterator of a range among them. (LAID: no walk: one application.) -/
theorem Tryd.Builder_String_any_k (B b : Nat) (l : List UInt8) (w : World) (h : Lib.IsBuilderF 69 5 B b (Lib.byteCells l) w) (hBw : B ≤ w.heap.size) :
    Calls Tryd.prog 24 #[.pointer (some ⟨b, 0, none⟩)] w fun e w' => e = .returned (.string ⟨l.toArray⟩) ∧ (Lib.IsBuilderF 69 5 B b (Lib.byteCells l) w' ∧ Below B w w' ∧ Lib.OthersKept 5 (some b) w w') := Any.Builder_String_any_k Tryd.lays169 Tryd.Builder_Extra_169 B b l w h hBw
def Tryd.laysM173_ren : Go.Shelf.Ren := ⟨fun | 173 => 23 | 246 => 29 | 283 => 34 | 284 => 35 | 285 => 36 | 286 => 37 | 129 => 39 | 317 => 38 | 318 => 40 | 319 => 41 | 320 => 42 | 337 => 43 | 338 => 44 | n => n, fun | 2 => 2 | 3 => 3 | 9 => 9 | 4 => 4 | 171 => 84 | 0 => 0 | 53 => 85 | 37 => 67 | 5 => 5 | 173 => 88 | 212 => 92 | 51 => 93 | 20 => 20 | 213 => 94 | 46 => 96 | 232 => 99 | 233 => 100 | n => n, fun | 17 => 1 | 18 => 2 | 19 => 3 | n => n⟩
theorem Tryd.laysM173 : Go.Proofs.LaysM.n173 Tryd.prog Tryd.laysM173_ren := {
  mixed := by kernel_rfl
  f129 := Tryd.func39.trans (congrArg some (by kernel_rfl))
  f173 := Tryd.func23.trans (congrArg some (by kernel_rfl))
  f246 := Tryd.func29.trans (congrArg some (by kernel_rfl))
  f283 := Tryd.func34.trans (congrArg some (by kernel_rfl))
  f284 := Tryd.func35.trans (congrArg some (by kernel_rfl))
  f285 := Tryd.func36.trans (congrArg some (by kernel_rfl))
  f286 := Tryd.func37.trans (congrArg some (by kernel_rfl))
  f317 := Tryd.func38.trans (congrArg some (by kernel_rfl))
  f318 := Tryd.func40.trans (congrArg some (by kernel_rfl))
  f319 := Tryd.func41.trans (congrArg some (by kernel_rfl))
  f320 := Tryd.func42.trans (congrArg some (by kernel_rfl))
  f337 := Tryd.func43.trans (congrArg some (by kernel_rfl))
  f338 := Tryd.func44.trans (congrArg some (by kernel_rfl))
  t0 := Tryd.underlying0
  a0 := Tryd.isAgg0
  z0 := Tryd.sizeOf0
  v0 := Tryd.zeroValue0
  t2 := Tryd.underlying2
  a2 := Tryd.isAgg2
  z2 := Tryd.sizeOf2
  v2 := Tryd.zeroValue2
  t3 := Tryd.underlying3
  a3 := Tryd.isAgg3
  z3 := Tryd.sizeOf3
  v3 := Tryd.zeroValue3
  t4 := Tryd.underlying4
  a4 := Tryd.isAgg4
  z4 := Tryd.sizeOf4
  v4 := Tryd.zeroValue4
  t5 := Tryd.underlying5
  a5 := Tryd.isAgg5
  z5 := Tryd.sizeOf5
  v5 := Tryd.zeroValue5
  t9 := Tryd.underlying9
  a9 := Tryd.isAgg9
  z9 := Tryd.sizeOf9
  v9 := Tryd.zeroValue9
  t20 := Tryd.underlying20
  a20 := Tryd.isAgg20
  z20 := Tryd.sizeOf20
  v20 := Tryd.zeroValue20
  t37 := Tryd.underlying67
  a37 := Tryd.isAgg67
  z37 := Tryd.sizeOf67
  v37 := Tryd.zeroValue67
  t46 := Tryd.underlying96
  a46 := Tryd.isAgg96
  z46 := Tryd.sizeOf96
  v46 := Tryd.zeroValue96
  t51 := Tryd.underlying93
  a51 := Tryd.isAgg93
  z51 := Tryd.sizeOf93
  v51 := Tryd.zeroValue93
  t53 := Tryd.underlying85
  a53 := Tryd.isAgg85
  z53 := Tryd.sizeOf85
  v53 := Tryd.zeroValue85
  t171 := Tryd.underlying84
  a171 := Tryd.isAgg84
  z171 := Tryd.sizeOf84
  v171 := Tryd.zeroValue84
  t173 := Tryd.underlying88
  a173 := Tryd.isAgg88
  z173 := Tryd.sizeOf88
  v173 := Tryd.zeroValue88
  t212 := Tryd.underlying92
  a212 := Tryd.isAgg92
  z212 := Tryd.sizeOf92
  v212 := Tryd.zeroValue92
  t213 := Tryd.underlying94
  a213 := Tryd.isAgg94
  z213 := Tryd.sizeOf94
  t232 := Tryd.underlying99
  a232 := Tryd.isAgg99
  z232 := Tryd.sizeOf99
  v232 := Tryd.zeroValue99
  t233 := Tryd.underlying100
  a233 := Tryd.isAgg100
  z233 := Tryd.sizeOf100
  v233 := Tryd.zeroValue100
  g17 := by kernel_rfl
  g18 := by kernel_rfl
  g19 := by kernel_rfl
  i0 := by kernel_rfl
  i2 := by kernel_rfl
  i3 := by kernel_rfl
  i4 := by kernel_rfl
  i5 := by kernel_rfl
  i9 := by kernel_rfl
  i20 := by kernel_rfl
  i37 := by kernel_rfl
  i46 := by kernel_rfl
  i51 := by kernel_rfl
  i53 := by kernel_rfl
  i171 := by kernel_rfl
  i173 := by kernel_rfl
  i212 := by kernel_rfl
  i232 := by kernel_rfl
  i233 := by kernel_rfl
  m17 := by kernel_rfl
  m18 := by kernel_rfl
  m19 := by kernel_rfl }
open Go.RowKit Go.Sort Go.Lib in
/-- strconv.FormatInt: "FormatInt returns the string representation of i in the given base": AT BASE 10: i's decimal numeral, for every int64. (LAID: no walk: one application.) -/
theorem Tryd.strconv_FormatInt_10 (n : Int) (h0 : -9223372036854775808 ≤ n) (h1 : n ≤ 9223372036854775807) (w : World) (htab : Lib.TabIs Tryd.prog w "internal/strconv.uint64pow10" .u64 Lib.pow10Tab) :
    Calls Tryd.prog 23 #[.int .i64 n, .int .i64 10] w fun e w' => e = .returned (.string ⟨(Lib.itoa n).toArray⟩) ∧ ∃ k os, w' = grow (w.drewN k) os := Any.strconv_FormatInt_10 Tryd.laysM173 n h0 h1 w htab
end Go.Proofs.Qxb6623474aDoor
