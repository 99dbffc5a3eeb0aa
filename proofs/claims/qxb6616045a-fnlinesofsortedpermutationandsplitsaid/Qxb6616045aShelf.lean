/-
  DERIVED: THE SHELF's CONTRACTS AT THIS DUMP, IN PLAIN WORDS (tools/lay-plain.mjs out of 'Qxb6616045aShelf.lean', which tools/lay-shelf.mjs wrote): THE SAME DECLARATIONS UNDER THE SAME NAMES: 'import', 'namespace', 'open', 'def', 'theorem' AND NOTHING ELSE: no command of the shelf's: FOR A HAND-IN. Each laying: the table of numbers ('.._ren') and one theorem, a field a fact of the dump's own or the kernel's comparison; each contract: ONE APPLICATION.
-/
import Derived.Test.Qxb6616045aProg
import Derived.Shelf.Sort.Plain
import Derived.Shelf.Slices.In.SortNone
namespace Go.Proofs
open Go.Shelf
def Try.lays189_ren : Go.Shelf.Ren := ⟨fun | 189 => 16 | 125 => 18 | 257 => 17 | 128 => 28 | 129 => 29 | 294 => 19 | 295 => 20 | 296 => 21 | 297 => 22 | 298 => 23 | 299 => 24 | 216 => 25 | 300 => 26 | 301 => 27 | 328 => 30 | 329 => 31 | 330 => 32 | 331 => 33 | 332 => 34 | 215 => 35 | 343 => 36 | n => n, fun | 28 => 24 | 3 => 3 | 46 => 48 | 0 => 0 | 51 => 59 | 53 => 38 | 4 => 4 | 183 => 51 | 182 => 50 | 131 => 56 | 5 => 5 | 9 => 9 | 218 => 61 | 222 => 65 | 228 => 68 | 229 => 69 | n => n, fun | n => n⟩
theorem Try.lays189 : Go.Proofs.Lays.n189 Try.prog Try.lays189_ren := {
  mixed := by kernel_rfl
  f125 := Try.func18.trans (congrArg some (by kernel_rfl))
  f128 := Try.func28.trans (congrArg some (by kernel_rfl))
  f129 := Try.func29.trans (congrArg some (by kernel_rfl))
  f189 := Try.func16.trans (congrArg some (by kernel_rfl))
  f215 := Try.func35.trans (congrArg some (by kernel_rfl))
  f216 := Try.func25.trans (congrArg some (by kernel_rfl))
  f257 := Try.func17.trans (congrArg some (by kernel_rfl))
  f294 := Try.func19.trans (congrArg some (by kernel_rfl))
  f295 := Try.func20.trans (congrArg some (by kernel_rfl))
  f296 := Try.func21.trans (congrArg some (by kernel_rfl))
  f297 := Try.func22.trans (congrArg some (by kernel_rfl))
  f298 := Try.func23.trans (congrArg some (by kernel_rfl))
  f299 := Try.func24.trans (congrArg some (by kernel_rfl))
  f300 := Try.func26.trans (congrArg some (by kernel_rfl))
  f301 := Try.func27.trans (congrArg some (by kernel_rfl))
  f328 := Try.func30.trans (congrArg some (by kernel_rfl))
  f329 := Try.func31.trans (congrArg some (by kernel_rfl))
  f330 := Try.func32.trans (congrArg some (by kernel_rfl))
  f331 := Try.func33.trans (congrArg some (by kernel_rfl))
  f332 := Try.func34.trans (congrArg some (by kernel_rfl))
  f343 := Try.func36.trans (congrArg some (by kernel_rfl))
  t0 := Try.underlying0
  a0 := Try.isAgg0
  z0 := Try.sizeOf0
  v0 := Try.zeroValue0
  t3 := Try.underlying3
  a3 := Try.isAgg3
  z3 := Try.sizeOf3
  v3 := Try.zeroValue3
  t4 := Try.underlying4
  a4 := Try.isAgg4
  z4 := Try.sizeOf4
  v4 := Try.zeroValue4
  t5 := Try.underlying5
  a5 := Try.isAgg5
  z5 := Try.sizeOf5
  v5 := Try.zeroValue5
  t9 := Try.underlying9
  a9 := Try.isAgg9
  z9 := Try.sizeOf9
  v9 := Try.zeroValue9
  t28 := Try.underlying24
  a28 := Try.isAgg24
  z28 := Try.sizeOf24
  v28 := Try.zeroValue24
  t46 := Try.underlying48
  a46 := Try.isAgg48
  z46 := Try.sizeOf48
  v46 := Try.zeroValue48
  t51 := Try.underlying59
  a51 := Try.isAgg59
  z51 := Try.sizeOf59
  v51 := Try.zeroValue59
  t53 := Try.underlying38
  a53 := Try.isAgg38
  z53 := Try.sizeOf38
  v53 := Try.zeroValue38
  t131 := Try.underlying56
  a131 := Try.isAgg56
  z131 := Try.sizeOf56
  v131 := Try.zeroValue56
  t182 := Try.underlying50
  a182 := Try.isAgg50
  z182 := Try.sizeOf50
  v182 := Try.zeroValue50
  t183 := Try.underlying51
  a183 := Try.isAgg51
  z183 := Try.sizeOf51
  v183 := Try.zeroValue51
  t218 := Try.underlying61
  a218 := Try.isAgg61
  z218 := Try.sizeOf61
  v218 := Try.zeroValue61
  t222 := Try.underlying65
  a222 := Try.isAgg65
  z222 := Try.sizeOf65
  v222 := Try.zeroValue65
  t228 := Try.underlying68
  a228 := Try.isAgg68
  z228 := Try.sizeOf68
  v228 := Try.zeroValue68
  t229 := Try.underlying69
  a229 := Try.isAgg69
  z229 := Try.sizeOf69
  v229 := Try.zeroValue69 }
end Go.Proofs
