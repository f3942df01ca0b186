/-
  DERIVED: THE SHELF's CONTRACTS AT THIS DUMP, IN PLAIN WORDS (tools/lay-plain.mjs out of 'YbulkdyjiShelf0.lean', which tools/lay-shelf.mjs wrote): THE SAME DECLARATIONS UNDER THE SAME NAMES: 'import', 'namespace', 'open', 'def', 'theorem' AND NOTHING ELSE: no command of the shelf's: FOR A HAND-IN. Each laying: the table of numbers ('.._ren') and one theorem, a field a fact of the dump's own or the kernel's comparison; each contract: ONE APPLICATION.
-/
import Derived.Shelf.Sort.Plain
import Derived.Test.YbulkdyjiProg
namespace Go.Proofs
open Go.Shelf
def Yba.lays189_ren : Go.Shelf.Ren := ⟨fun | 189 => 6 | 125 => 8 | 257 => 7 | 128 => 18 | 129 => 19 | 294 => 9 | 295 => 10 | 296 => 11 | 297 => 12 | 298 => 13 | 299 => 14 | 216 => 15 | 300 => 16 | 301 => 17 | 328 => 20 | 329 => 21 | 330 => 22 | 331 => 23 | 332 => 24 | 215 => 25 | 343 => 26 | n => n, fun | 28 => 22 | 3 => 3 | 46 => 32 | 0 => 0 | 51 => 42 | 53 => 44 | 4 => 4 | 183 => 35 | 182 => 34 | 131 => 26 | 5 => 5 | 9 => 9 | 218 => 45 | 222 => 49 | 228 => 52 | 229 => 53 | n => n, fun | n => n⟩
theorem Yba.lays189 : Go.Proofs.Lays.n189 Yba.prog Yba.lays189_ren := {
  mixed := by kernel_rfl
  f125 := Yba.func8.trans (congrArg some (by kernel_rfl))
  f128 := Yba.func18.trans (congrArg some (by kernel_rfl))
  f129 := Yba.func19.trans (congrArg some (by kernel_rfl))
  f189 := Yba.func6.trans (congrArg some (by kernel_rfl))
  f215 := Yba.func25.trans (congrArg some (by kernel_rfl))
  f216 := Yba.func15.trans (congrArg some (by kernel_rfl))
  f257 := Yba.func7.trans (congrArg some (by kernel_rfl))
  f294 := Yba.func9.trans (congrArg some (by kernel_rfl))
  f295 := Yba.func10.trans (congrArg some (by kernel_rfl))
  f296 := Yba.func11.trans (congrArg some (by kernel_rfl))
  f297 := Yba.func12.trans (congrArg some (by kernel_rfl))
  f298 := Yba.func13.trans (congrArg some (by kernel_rfl))
  f299 := Yba.func14.trans (congrArg some (by kernel_rfl))
  f300 := Yba.func16.trans (congrArg some (by kernel_rfl))
  f301 := Yba.func17.trans (congrArg some (by kernel_rfl))
  f328 := Yba.func20.trans (congrArg some (by kernel_rfl))
  f329 := Yba.func21.trans (congrArg some (by kernel_rfl))
  f330 := Yba.func22.trans (congrArg some (by kernel_rfl))
  f331 := Yba.func23.trans (congrArg some (by kernel_rfl))
  f332 := Yba.func24.trans (congrArg some (by kernel_rfl))
  f343 := Yba.func26.trans (congrArg some (by kernel_rfl))
  t0 := Yba.underlying0
  a0 := Yba.isAgg0
  z0 := Yba.sizeOf0
  v0 := Yba.zeroValue0
  t3 := Yba.underlying3
  a3 := Yba.isAgg3
  z3 := Yba.sizeOf3
  v3 := Yba.zeroValue3
  t4 := Yba.underlying4
  a4 := Yba.isAgg4
  z4 := Yba.sizeOf4
  v4 := Yba.zeroValue4
  t5 := Yba.underlying5
  a5 := Yba.isAgg5
  z5 := Yba.sizeOf5
  v5 := Yba.zeroValue5
  t9 := Yba.underlying9
  a9 := Yba.isAgg9
  z9 := Yba.sizeOf9
  v9 := Yba.zeroValue9
  t28 := Yba.underlying22
  a28 := Yba.isAgg22
  z28 := Yba.sizeOf22
  v28 := Yba.zeroValue22
  t46 := Yba.underlying32
  a46 := Yba.isAgg32
  z46 := Yba.sizeOf32
  v46 := Yba.zeroValue32
  t51 := Yba.underlying42
  a51 := Yba.isAgg42
  z51 := Yba.sizeOf42
  v51 := Yba.zeroValue42
  t53 := Yba.underlying44
  a53 := Yba.isAgg44
  z53 := Yba.sizeOf44
  v53 := Yba.zeroValue44
  t131 := Yba.underlying26
  a131 := Yba.isAgg26
  z131 := Yba.sizeOf26
  v131 := Yba.zeroValue26
  t182 := Yba.underlying34
  a182 := Yba.isAgg34
  z182 := Yba.sizeOf34
  v182 := Yba.zeroValue34
  t183 := Yba.underlying35
  a183 := Yba.isAgg35
  z183 := Yba.sizeOf35
  v183 := Yba.zeroValue35
  t218 := Yba.underlying45
  a218 := Yba.isAgg45
  z218 := Yba.sizeOf45
  v218 := Yba.zeroValue45
  t222 := Yba.underlying49
  a222 := Yba.isAgg49
  z222 := Yba.sizeOf49
  v222 := Yba.zeroValue49
  t228 := Yba.underlying52
  a228 := Yba.isAgg52
  z228 := Yba.sizeOf52
  v228 := Yba.zeroValue52
  t229 := Yba.underlying53
  a229 := Yba.isAgg53
  z229 := Yba.sizeOf53
  v229 := Yba.zeroValue53 }
end Go.Proofs
