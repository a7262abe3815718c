/-
  DERIVED: THE SHELF's CONTRACTS AT THIS DUMP, IN PLAIN WORDS (tools/lay-plain.mjs out of 'Qxb6616369aShelfSrc.lean', which tools/lay-shelf.mjs wrote): THE SAME DECLARATIONS UNDER THE SAME NAMES: 'import', 'namespace', 'open', 'def', 'theorem' AND NOTHING ELSE: no command of the shelf's: FOR A HAND-IN. Each laying: the table of numbers ('.._ren') and one theorem, a field a fact of the dump's own or the kernel's comparison; each contract: ONE APPLICATION.
-/
import Derived.Shelf.SlLaysF0
import Derived.Shelf.SlGeneric
import Derived.Shelf.Lays
import Derived.Shelf.Small.Strs
import Derived.Test.Qxb6616369aProg
namespace Go.Proofs
open Go.Shelf
def Try.sortP_ren : Go.Shelf.Ren := ⟨fun | 6 => 28 | 15 => 32 | 14 => 31 | 28 => 42 | 29 => 43 | 20 => 34 | 21 => 35 | 22 => 36 | 23 => 37 | 24 => 38 | 25 => 39 | 26 => 40 | 27 => 41 | 46 => 45 | 47 => 46 | 48 => 47 | 49 => 48 | 50 => 49 | 57 => 50 | n => n, fun | 22 => 47 | 24 => 49 | 25 => 83 | 3 => 3 | 39 => 86 | 0 => 0 | 53 => 96 | 55 => 98 | 4 => 4 | 46 => 89 | 45 => 88 | 50 => 93 | 5 => 5 | 9 => 9 | 66 => 99 | 70 => 103 | 76 => 105 | 77 => 106 | n => n, fun | n => n⟩
theorem Try.sortP : Go.Proofs.SlLaysF0.n6 Try.prog Try.sortP_ren := {
  mixed := by kernel_rfl
  f6 := ⟨Try.f28.name, by decide, Try.func28.trans (congrArg some (by kernel_rfl))⟩
  f14 := ⟨Try.f31.name, by decide, Try.func31.trans (congrArg some (by kernel_rfl))⟩
  f15 := Try.func32.trans (congrArg some (by kernel_rfl))
  f20 := ⟨Try.f34.name, by decide, Try.func34.trans (congrArg some (by kernel_rfl))⟩
  f21 := ⟨Try.f35.name, by decide, Try.func35.trans (congrArg some (by kernel_rfl))⟩
  f22 := ⟨Try.f36.name, by decide, Try.func36.trans (congrArg some (by kernel_rfl))⟩
  f23 := ⟨Try.f37.name, by decide, Try.func37.trans (congrArg some (by kernel_rfl))⟩
  f24 := ⟨Try.f38.name, by decide, Try.func38.trans (congrArg some (by kernel_rfl))⟩
  f25 := ⟨Try.f39.name, by decide, Try.func39.trans (congrArg some (by kernel_rfl))⟩
  f26 := ⟨Try.f40.name, by decide, Try.func40.trans (congrArg some (by kernel_rfl))⟩
  f27 := ⟨Try.f41.name, by decide, Try.func41.trans (congrArg some (by kernel_rfl))⟩
  f28 := Try.func42.trans (congrArg some (by kernel_rfl))
  f29 := Try.func43.trans (congrArg some (by kernel_rfl))
  f46 := ⟨Try.f45.name, by decide, Try.func45.trans (congrArg some (by kernel_rfl))⟩
  f47 := Try.func46.trans (congrArg some (by kernel_rfl))
  f48 := Try.func47.trans (congrArg some (by kernel_rfl))
  f49 := ⟨Try.f48.name, by decide, Try.func48.trans (congrArg some (by kernel_rfl))⟩
  f50 := ⟨Try.f49.name, by decide, Try.func49.trans (congrArg some (by kernel_rfl))⟩
  f57 := ⟨Try.f50.name, by decide, Try.func50.trans (congrArg some (by kernel_rfl))⟩
  t0 := Try.underlying0
  a0 := Try.isAgg0
  z0 := Try.sizeOf0
  v0 := Try.zeroValue0
  t3 := Try.underlying3
  a3 := Try.isAgg3
  z3 := Try.sizeOf3
  v3 := Try.zeroValue3
  t4 := Try.underlying4
  a4 := Try.isAgg4
  z4 := Try.sizeOf4
  v4 := Try.zeroValue4
  t5 := Try.underlying5
  a5 := Try.isAgg5
  z5 := Try.sizeOf5
  v5 := Try.zeroValue5
  t9 := Try.underlying9
  a9 := Try.isAgg9
  z9 := Try.sizeOf9
  v9 := Try.zeroValue9
  t22 := Try.underlying47
  a22 := Try.isAgg47
  z22 := Try.sizeOf47
  v22 := Try.zeroValue47
  t25 := Try.underlying83
  a25 := Try.isAgg83
  z25 := Try.sizeOf83
  v25 := Try.zeroValue83
  t39 := Try.underlying86
  a39 := Try.isAgg86
  z39 := Try.sizeOf86
  v39 := Try.zeroValue86
  t45 := Try.underlying88
  a45 := Try.isAgg88
  z45 := Try.sizeOf88
  v45 := Try.zeroValue88
  t46 := Try.underlying89
  a46 := Try.isAgg89
  z46 := Try.sizeOf89
  v46 := Try.zeroValue89
  t50 := Try.underlying93
  a50 := Try.isAgg93
  z50 := Try.sizeOf93
  v50 := Try.zeroValue93
  t53 := Try.underlying96
  a53 := Try.isAgg96
  z53 := Try.sizeOf96
  v53 := Try.zeroValue96
  t55 := Try.underlying98
  a55 := Try.isAgg98
  z55 := Try.sizeOf98
  v55 := Try.zeroValue98
  t66 := Try.underlying99
  a66 := Try.isAgg99
  z66 := Try.sizeOf99
  v66 := Try.zeroValue99
  t70 := Try.underlying103
  a70 := Try.isAgg103
  z70 := Try.sizeOf103
  v70 := Try.zeroValue103
  t76 := Try.underlying105
  a76 := Try.isAgg105
  z76 := Try.sizeOf105
  v76 := Try.zeroValue105
  t77 := Try.underlying106
  a77 := Try.isAgg106
  z77 := Try.sizeOf106
  v77 := Try.zeroValue106 }
def Try.cmpS_ren : Go.Shelf.Ren := ⟨fun | 106 => 30 | 213 => 33 | 265 => 44 | n => n, fun | 9 => 9 | 3 => 3 | n => n, fun | n => n⟩
theorem Try.cmpS : Go.Proofs.Lays.n106 Try.prog Try.cmpS_ren := {
  mixed := by kernel_rfl
  f106 := Try.func30.trans (congrArg some (by kernel_rfl))
  f213 := Try.func33.trans (congrArg some (by kernel_rfl))
  f265 := Try.func44.trans (congrArg some (by kernel_rfl))
  t3 := Try.underlying3
  a3 := Try.isAgg3
  z3 := Try.sizeOf3
  v3 := Try.zeroValue3
  t9 := Try.underlying9
  a9 := Try.isAgg9
  z9 := Try.sizeOf9
  v9 := Try.zeroValue9 }
end Go.Proofs
