/-
  DERIVED: THE SHELF's CONTRACT OF strconv.Itoa AT THIS DUMP, IN PLAIN WORDS (out of the kit's lay-shelf.mjs and lay-plain.mjs; the other contracts struck; the table's name by the row's own list).
-/
import Derived.Shelf.Strconv.Itoa0
import Derived.Shelf.Strconv.Itoa1
import Derived.Shelf.LaysM
import Derived.Shelf.Strconv.Itoa2
import Derived.Shelf.Strconv.Itoa3
import Derived.Test.Qxb6604459aDoorRows
namespace Go.Proofs
open Go.Shelf
def Tryd.laysM171_ren : Go.Shelf.Ren := ⟨fun | 171 => 25 | 243 => 36 | 246 => 38 | 283 => 41 | 284 => 42 | 285 => 43 | 286 => 44 | 129 => 47 | 317 => 46 | 318 => 48 | 319 => 49 | 320 => 50 | 337 => 52 | 338 => 53 | n => n, fun | 3 => 3 | 9 => 9 | 2 => 2 | 4 => 4 | 171 => 73 | 0 => 0 | 53 => 74 | 37 => 67 | 5 => 5 | 173 => 77 | 212 => 82 | 51 => 83 | 20 => 20 | 213 => 84 | 46 => 86 | 232 => 90 | 233 => 91 | n => n, fun | 17 => 0 | 18 => 1 | 19 => 2 | n => n⟩
theorem Tryd.laysM171 : Go.Proofs.LaysM.n171 Tryd.prog Tryd.laysM171_ren := {
  mixed := by kernel_rfl
  f129 := Tryd.func47.trans (congrArg some (by kernel_rfl))
  f171 := Tryd.func25.trans (congrArg some (by kernel_rfl))
  f243 := Tryd.func36.trans (congrArg some (by kernel_rfl))
  f246 := Tryd.func38.trans (congrArg some (by kernel_rfl))
  f283 := Tryd.func41.trans (congrArg some (by kernel_rfl))
  f284 := Tryd.func42.trans (congrArg some (by kernel_rfl))
  f285 := Tryd.func43.trans (congrArg some (by kernel_rfl))
  f286 := Tryd.func44.trans (congrArg some (by kernel_rfl))
  f317 := Tryd.func46.trans (congrArg some (by kernel_rfl))
  f318 := Tryd.func48.trans (congrArg some (by kernel_rfl))
  f319 := Tryd.func49.trans (congrArg some (by kernel_rfl))
  f320 := Tryd.func50.trans (congrArg some (by kernel_rfl))
  f337 := Tryd.func52.trans (congrArg some (by kernel_rfl))
  f338 := Tryd.func53.trans (congrArg some (by kernel_rfl))
  t0 := Tryd.underlying0
  a0 := Tryd.isAgg0
  z0 := Tryd.sizeOf0
  v0 := Tryd.zeroValue0
  t2 := Tryd.underlying2
  a2 := Tryd.isAgg2
  z2 := Tryd.sizeOf2
  v2 := Tryd.zeroValue2
  t3 := Tryd.underlying3
  a3 := Tryd.isAgg3
  z3 := Tryd.sizeOf3
  v3 := Tryd.zeroValue3
  t4 := Tryd.underlying4
  a4 := Tryd.isAgg4
  z4 := Tryd.sizeOf4
  v4 := Tryd.zeroValue4
  t5 := Tryd.underlying5
  a5 := Tryd.isAgg5
  z5 := Tryd.sizeOf5
  v5 := Tryd.zeroValue5
  t9 := Tryd.underlying9
  a9 := Tryd.isAgg9
  z9 := Tryd.sizeOf9
  v9 := Tryd.zeroValue9
  t20 := Tryd.underlying20
  a20 := Tryd.isAgg20
  z20 := Tryd.sizeOf20
  v20 := Tryd.zeroValue20
  t37 := Tryd.underlying67
  a37 := Tryd.isAgg67
  z37 := Tryd.sizeOf67
  v37 := Tryd.zeroValue67
  t46 := Tryd.underlying86
  a46 := Tryd.isAgg86
  z46 := Tryd.sizeOf86
  v46 := Tryd.zeroValue86
  t51 := Tryd.underlying83
  a51 := Tryd.isAgg83
  z51 := Tryd.sizeOf83
  v51 := Tryd.zeroValue83
  t53 := Tryd.underlying74
  a53 := Tryd.isAgg74
  z53 := Tryd.sizeOf74
  v53 := Tryd.zeroValue74
  t171 := Tryd.underlying73
  a171 := Tryd.isAgg73
  z171 := Tryd.sizeOf73
  v171 := Tryd.zeroValue73
  t173 := Tryd.underlying77
  a173 := Tryd.isAgg77
  z173 := Tryd.sizeOf77
  v173 := Tryd.zeroValue77
  t212 := Tryd.underlying82
  a212 := Tryd.isAgg82
  z212 := Tryd.sizeOf82
  v212 := Tryd.zeroValue82
  t213 := Tryd.underlying84
  a213 := Tryd.isAgg84
  z213 := Tryd.sizeOf84
  t232 := Tryd.underlying90
  a232 := Tryd.isAgg90
  z232 := Tryd.sizeOf90
  v232 := Tryd.zeroValue90
  t233 := Tryd.underlying91
  a233 := Tryd.isAgg91
  z233 := Tryd.sizeOf91
  v233 := Tryd.zeroValue91
  g17 := by kernel_rfl
  g18 := by kernel_rfl
  g19 := by kernel_rfl
  i0 := by kernel_rfl
  i2 := by kernel_rfl
  i3 := by kernel_rfl
  i4 := by kernel_rfl
  i5 := by kernel_rfl
  i9 := by kernel_rfl
  i20 := by kernel_rfl
  i37 := by kernel_rfl
  i46 := by kernel_rfl
  i51 := by kernel_rfl
  i53 := by kernel_rfl
  i171 := by kernel_rfl
  i173 := by kernel_rfl
  i212 := by kernel_rfl
  i232 := by kernel_rfl
  i233 := by kernel_rfl
  m17 := by kernel_rfl
  m18 := by kernel_rfl
  m19 := by kernel_rfl }
/-- The table of powers of ten, by the name that the given rows list first. -/
def Qxb6604459aDoor.powName : String := Qxb6604459aDoor.Rows.fnPosStringTellsPositionsApartRow.named.headD "none"
open Go.RowKit Go.Sort Go.Lib in
open Qxb6604459aDoor in
/-- strconv.Itoa: "Itoa is equivalent to FormatInt(int64(i), 10).": i's DECIMAL NUMERAL ('Lib.itoa': a '-' where i is negative, then the digits), FOR EVERY int. The world behind the call: the world before it, new blocks behind the heap (the library's 'var a [24]byte'), draws. (LAID: no walk: one application.) -/
theorem Tryd.strconv_Itoa (n : Int) (h0 : -9223372036854775808 ≤ n) (h1 : n ≤ 9223372036854775807) (w : World) (htab : Lib.TabIs Tryd.prog w powName .u64 Lib.pow10Tab) :
    Calls Tryd.prog 25 #[.int .i64 n] w fun e w' => e = .returned (.string ⟨(Lib.itoa n).toArray⟩) ∧ ∃ k os, w' = grow (w.drewN k) os := Any.strconv_Itoa Tryd.laysM171 n h0 h1 w htab
end Go.Proofs
