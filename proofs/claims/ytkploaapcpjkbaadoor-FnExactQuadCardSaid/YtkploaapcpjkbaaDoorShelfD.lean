/-
  The shelf's contract of strconv.Itoa at this program, in plain words: printed by the kit's lay-shelf.mjs and lay-plain.mjs; of its print just this part.
-/
import Derived.Shelf.LaysM
import Derived.Shelf.Strconv.Itoa2
import Derived.Shelf.Strconv.Itoa3
import Derived.Test.YtkploaapcpjkbaaDoorProg
namespace Go.Proofs
open Go.Shelf
set_option linter.unusedVariables false
set_option linter.unusedSimpArgs false
def Tryd.laysM171_ren : Go.Shelf.Ren := ⟨fun | 171 => 22 | 243 => 38 | 246 => 56 | 283 => 71 | 284 => 72 | 285 => 73 | 286 => 74 | 129 => 77 | 317 => 76 | 318 => 78 | 319 => 79 | 320 => 80 | 337 => 81 | 338 => 82 | n => n, fun | 3 => 3 | 9 => 9 | 2 => 2 | 4 => 4 | 171 => 98 | 0 => 0 | 53 => 22 | 37 => 66 | 5 => 5 | 173 => 100 | 212 => 110 | 51 => 89 | 20 => 20 | 213 => 111 | 46 => 57 | 232 => 115 | 233 => 116 | n => n, fun | 17 => 0 | 18 => 1 | 19 => 2 | n => n⟩
theorem Tryd.laysM171 : Go.Proofs.LaysM.n171 Tryd.prog Tryd.laysM171_ren := {
  mixed := by kernel_rfl
  f129 := Tryd.func77.trans (congrArg some (by kernel_rfl))
  f171 := Tryd.func22.trans (congrArg some (by kernel_rfl))
  f243 := Tryd.func38.trans (congrArg some (by kernel_rfl))
  f246 := Tryd.func56.trans (congrArg some (by kernel_rfl))
  f283 := Tryd.func71.trans (congrArg some (by kernel_rfl))
  f284 := Tryd.func72.trans (congrArg some (by kernel_rfl))
  f285 := Tryd.func73.trans (congrArg some (by kernel_rfl))
  f286 := Tryd.func74.trans (congrArg some (by kernel_rfl))
  f317 := Tryd.func76.trans (congrArg some (by kernel_rfl))
  f318 := Tryd.func78.trans (congrArg some (by kernel_rfl))
  f319 := Tryd.func79.trans (congrArg some (by kernel_rfl))
  f320 := Tryd.func80.trans (congrArg some (by kernel_rfl))
  f337 := Tryd.func81.trans (congrArg some (by kernel_rfl))
  f338 := Tryd.func82.trans (congrArg some (by kernel_rfl))
  t0 := Tryd.underlying0
  a0 := Tryd.isAgg0
  z0 := Tryd.sizeOf0
  v0 := Tryd.zeroValue0
  t2 := Tryd.underlying2
  a2 := Tryd.isAgg2
  z2 := Tryd.sizeOf2
  v2 := Tryd.zeroValue2
  t3 := Tryd.underlying3
  a3 := Tryd.isAgg3
  z3 := Tryd.sizeOf3
  v3 := Tryd.zeroValue3
  t4 := Tryd.underlying4
  a4 := Tryd.isAgg4
  z4 := Tryd.sizeOf4
  v4 := Tryd.zeroValue4
  t5 := Tryd.underlying5
  a5 := Tryd.isAgg5
  z5 := Tryd.sizeOf5
  v5 := Tryd.zeroValue5
  t9 := Tryd.underlying9
  a9 := Tryd.isAgg9
  z9 := Tryd.sizeOf9
  v9 := Tryd.zeroValue9
  t20 := Tryd.underlying20
  a20 := Tryd.isAgg20
  z20 := Tryd.sizeOf20
  v20 := Tryd.zeroValue20
  t37 := Tryd.underlying66
  a37 := Tryd.isAgg66
  z37 := Tryd.sizeOf66
  v37 := Tryd.zeroValue66
  t46 := Tryd.underlying57
  a46 := Tryd.isAgg57
  z46 := Tryd.sizeOf57
  v46 := Tryd.zeroValue57
  t51 := Tryd.underlying89
  a51 := Tryd.isAgg89
  z51 := Tryd.sizeOf89
  v51 := Tryd.zeroValue89
  t53 := Tryd.underlying22
  a53 := Tryd.isAgg22
  z53 := Tryd.sizeOf22
  v53 := Tryd.zeroValue22
  t171 := Tryd.underlying98
  a171 := Tryd.isAgg98
  z171 := Tryd.sizeOf98
  v171 := Tryd.zeroValue98
  t173 := Tryd.underlying100
  a173 := Tryd.isAgg100
  z173 := Tryd.sizeOf100
  v173 := Tryd.zeroValue100
  t212 := Tryd.underlying110
  a212 := Tryd.isAgg110
  z212 := Tryd.sizeOf110
  v212 := Tryd.zeroValue110
  t213 := Tryd.underlying111
  a213 := Tryd.isAgg111
  z213 := Tryd.sizeOf111
  t232 := Tryd.underlying115
  a232 := Tryd.isAgg115
  z232 := Tryd.sizeOf115
  v232 := Tryd.zeroValue115
  t233 := Tryd.underlying116
  a233 := Tryd.isAgg116
  z233 := Tryd.sizeOf116
  v233 := Tryd.zeroValue116
  g17 := by kernel_rfl
  g18 := by kernel_rfl
  g19 := by kernel_rfl
  i0 := by kernel_rfl
  i2 := by kernel_rfl
  i3 := by kernel_rfl
  i4 := by kernel_rfl
  i5 := by kernel_rfl
  i9 := by kernel_rfl
  i20 := by kernel_rfl
  i37 := by kernel_rfl
  i46 := by kernel_rfl
  i51 := by kernel_rfl
  i53 := by kernel_rfl
  i171 := by kernel_rfl
  i173 := by kernel_rfl
  i212 := by kernel_rfl
  i232 := by kernel_rfl
  i233 := by kernel_rfl
  m17 := by kernel_rfl
  m18 := by kernel_rfl
  m19 := by kernel_rfl }
open Go.RowKit Go.Sort Go.Lib in
/-- strconv.Itoa: "Itoa is equivalent to FormatInt(int64(i), 10).": i's DECIMAL NUMERAL ('Lib.itoa': a '-' where i is negative, then the digits), FOR EVERY int. The world behind the call: the world before it, new blocks behind the heap (the library's 'var a [24]byte'), draws. (LAID: no walk: one application.) -/
theorem Tryd.strconv_Itoa (n : Int) (h0 : -9223372036854775808 ≤ n) (h1 : n ≤ 9223372036854775807) (w : World) (htab : Lib.TabIs Tryd.prog w "internal/strconv.uint64pow10" .u64 Lib.pow10Tab) :
    Calls Tryd.prog 22 #[.int .i64 n] w fun e w' => e = .returned (.string ⟨(Lib.itoa n).toArray⟩) ∧ ∃ k os, w' = grow (w.drewN k) os := Any.strconv_Itoa Tryd.laysM171 n h0 h1 w htab
end Go.Proofs
