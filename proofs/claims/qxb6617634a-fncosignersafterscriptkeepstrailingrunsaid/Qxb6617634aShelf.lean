/-
  DERIVED: THE SHELF's CONTRACTS AT THIS DUMP, IN PLAIN WORDS (tools/lay-plain.mjs out of 'Qxb6617634aShelf.lean', which tools/lay-shelf.mjs wrote): THE SAME DECLARATIONS UNDER THE SAME NAMES: 'import', 'namespace', 'open', 'def', 'theorem' AND NOTHING ELSE: no command of the shelf's: FOR A HAND-IN. Each laying: the table of numbers ('.._ren') and one theorem, a field a fact of the dump's own or the kernel's comparison; each contract: ONE APPLICATION.
-/
import Derived.Test.Qxb6617634aProg
import Derived.Shelf.SlGeneric
import Derived.Shelf.SlMaps.Copy
namespace Go.Proofs
open Go.Shelf
def Try.copyS_ren : Go.Shelf.Ren := ⟨fun | 5 => 10 | n => n, fun | 23 => 30 | 24 => 30 | 26 => 9 | 27 => 4 | 0 => 0 | 4 => 4 | n => n, fun | n => n⟩
theorem Try.copyS : Go.Proofs.SlLaysX.n5 Try.prog Try.copyS_ren := {
  mixed := by kernel_rfl
  f5 := ⟨Try.f10.name, by decide, Try.func10.trans (congrArg some (by kernel_rfl))⟩
  t0 := Try.underlying0
  a0 := Try.isAgg0
  z0 := Try.sizeOf0
  v0 := Try.zeroValue0
  t4 := Try.underlying4
  a4 := Try.isAgg4
  z4 := Try.sizeOf4
  v4 := Try.zeroValue4
  t23 := Try.underlying30
  a23 := Try.isAgg30
  z23 := Try.sizeOf30
  v23 := Try.zeroValue30
  t24 := Try.underlying30
  a24 := Try.isAgg30
  z24 := Try.sizeOf30
  v24 := Try.zeroValue30
  a26 := Try.isAgg9
  z26 := Try.sizeOf9
  a27 := Try.isAgg4
  z27 := Try.sizeOf4 }
end Go.Proofs
