/-
  DERIVED: THE SHELF's CONTRACTS AT THIS DUMP, IN PLAIN WORDS (tools/lay-plain.mjs out of 'TryShelf.lean', which tools/lay-shelf.mjs wrote): THE SAME DECLARATIONS UNDER THE SAME NAMES: 'import', 'namespace', 'open', 'def', 'theorem' AND NOTHING ELSE: no command of the shelf's: FOR A HAND-IN. Each laying: the table of numbers ('.._ren') and one theorem, a field a fact of the dump's own or the kernel's comparison; each contract: ONE APPLICATION.
-/
import Derived.Shelf.SlSortCmp.NoneTotal
import Derived.Shelf.SlGeneric
import Derived.Ground.SlsfProg
import Derived.Test.Qxb6612769aProg
namespace Go.Proofs
open Go.Shelf
def Try.sortF_ren : Go.Shelf.Ren := ⟨fun | 6 => 29 | 15 => 36 | 14 => 35 | 28 => 46 | 29 => 47 | 20 => 38 | 21 => 39 | 22 => 40 | 23 => 41 | 24 => 42 | 25 => 43 | 26 => 44 | 27 => 45 | 46 => 48 | 47 => 49 | 48 => 50 | 49 => 51 | 50 => 52 | 57 => 53 | n => n, fun | 22 => 50 | 24 => 52 | 25 => 110 | 3 => 3 | 39 => 118 | 0 => 0 | 53 => 62 | 55 => 29 | 4 => 4 | 46 => 122 | 45 => 121 | 50 => 126 | 5 => 5 | 9 => 9 | 66 => 129 | 70 => 133 | 76 => 135 | 77 => 136 | n => n, fun | n => n⟩
theorem Try.sortF : Go.Proofs.SlLaysF.n6 Try.prog Try.sortF_ren := {
  mixed := by kernel_rfl
  f6 := ⟨Try.f29.name, by decide, Try.func29.trans (congrArg some (by kernel_rfl))⟩
  f14 := ⟨Try.f35.name, by decide, Try.func35.trans (congrArg some (by kernel_rfl))⟩
  f15 := Try.func36.trans (congrArg some (by kernel_rfl))
  f20 := ⟨Try.f38.name, by decide, Try.func38.trans (congrArg some (by kernel_rfl))⟩
  f21 := ⟨Try.f39.name, by decide, Try.func39.trans (congrArg some (by kernel_rfl))⟩
  f22 := ⟨Try.f40.name, by decide, Try.func40.trans (congrArg some (by kernel_rfl))⟩
  f23 := ⟨Try.f41.name, by decide, Try.func41.trans (congrArg some (by kernel_rfl))⟩
  f24 := ⟨Try.f42.name, by decide, Try.func42.trans (congrArg some (by kernel_rfl))⟩
  f25 := ⟨Try.f43.name, by decide, Try.func43.trans (congrArg some (by kernel_rfl))⟩
  f26 := ⟨Try.f44.name, by decide, Try.func44.trans (congrArg some (by kernel_rfl))⟩
  f27 := ⟨Try.f45.name, by decide, Try.func45.trans (congrArg some (by kernel_rfl))⟩
  f28 := Try.func46.trans (congrArg some (by kernel_rfl))
  f29 := Try.func47.trans (congrArg some (by kernel_rfl))
  f46 := ⟨Try.f48.name, by decide, Try.func48.trans (congrArg some (by kernel_rfl))⟩
  f47 := Try.func49.trans (congrArg some (by kernel_rfl))
  f48 := Try.func50.trans (congrArg some (by kernel_rfl))
  f49 := ⟨Try.f51.name, by decide, Try.func51.trans (congrArg some (by kernel_rfl))⟩
  f50 := ⟨Try.f52.name, by decide, Try.func52.trans (congrArg some (by kernel_rfl))⟩
  f57 := ⟨Try.f53.name, by decide, Try.func53.trans (congrArg some (by kernel_rfl))⟩
  t0 := Try.underlying0
  a0 := Try.isAgg0
  z0 := Try.sizeOf0
  v0 := Try.zeroValue0
  t3 := Try.underlying3
  a3 := Try.isAgg3
  z3 := Try.sizeOf3
  v3 := Try.zeroValue3
  t4 := Try.underlying4
  a4 := Try.isAgg4
  z4 := Try.sizeOf4
  v4 := Try.zeroValue4
  t5 := Try.underlying5
  a5 := Try.isAgg5
  z5 := Try.sizeOf5
  v5 := Try.zeroValue5
  t9 := Try.underlying9
  a9 := Try.isAgg9
  z9 := Try.sizeOf9
  v9 := Try.zeroValue9
  t22 := Try.underlying50
  a22 := Try.isAgg50
  z22 := Try.sizeOf50
  v22 := Try.zeroValue50
  a24 := Try.isAgg52
  z24 := Try.sizeOf52
  t25 := Try.underlying110
  a25 := Try.isAgg110
  z25 := Try.sizeOf110
  v25 := Try.zeroValue110
  t39 := Try.underlying118
  a39 := Try.isAgg118
  z39 := Try.sizeOf118
  v39 := Try.zeroValue118
  t45 := Try.underlying121
  a45 := Try.isAgg121
  z45 := Try.sizeOf121
  v45 := Try.zeroValue121
  t46 := Try.underlying122
  a46 := Try.isAgg122
  z46 := Try.sizeOf122
  v46 := Try.zeroValue122
  t50 := Try.underlying126
  a50 := Try.isAgg126
  z50 := Try.sizeOf126
  v50 := Try.zeroValue126
  t53 := Try.underlying62
  a53 := Try.isAgg62
  z53 := Try.sizeOf62
  v53 := Try.zeroValue62
  t55 := Try.underlying29
  a55 := Try.isAgg29
  z55 := Try.sizeOf29
  v55 := Try.zeroValue29
  t66 := Try.underlying129
  a66 := Try.isAgg129
  z66 := Try.sizeOf129
  v66 := Try.zeroValue129
  t70 := Try.underlying133
  a70 := Try.isAgg133
  z70 := Try.sizeOf133
  v70 := Try.zeroValue133
  t76 := Try.underlying135
  a76 := Try.isAgg135
  z76 := Try.sizeOf135
  v76 := Try.zeroValue135
  t77 := Try.underlying136
  a77 := Try.isAgg136
  z77 := Try.sizeOf136
  v77 := Try.zeroValue136 }
end Go.Proofs
