/-
  DERIVED: THE SHELF's CONTRACTS AT THIS DUMP, IN PLAIN WORDS (tools/lay-plain.mjs out of 'YbaSortShelf.lean', which tools/lay-shelf.mjs wrote): THE SAME DECLARATIONS UNDER THE SAME NAMES: 'import', 'namespace', 'open', 'def', 'theorem' AND NOTHING ELSE: no command of the shelf's: FOR A HAND-IN. Each laying: the table of numbers ('.._ren') and one theorem, a field a fact of the dump's own or the kernel's comparison; each contract: ONE APPLICATION.
-/
import Derived.Shelf.SlSortCmp.WholeK
import Derived.Shelf.SlGeneric
import Derived.Ground.SlsfProg
import Derived.Test.YbulkccaoProg
namespace Go.Proofs
open Go.Shelf
def Yba.sortKeyed_ren : Go.Shelf.Ren := ⟨fun | 6 => 13 | 15 => 30 | 14 => 29 | 28 => 47 | 29 => 48 | 20 => 39 | 21 => 40 | 22 => 41 | 23 => 42 | 24 => 43 | 25 => 44 | 26 => 45 | 27 => 46 | 46 => 54 | 47 => 55 | 48 => 56 | 49 => 57 | 50 => 58 | 57 => 59 | n => n, fun | 22 => 68 | 24 => 74 | 25 => 77 | 3 => 3 | 39 => 52 | 0 => 0 | 53 => 24 | 55 => 113 | 4 => 4 | 46 => 105 | 45 => 104 | 50 => 109 | 5 => 5 | 9 => 9 | 66 => 123 | 70 => 127 | 76 => 129 | 77 => 130 | n => n, fun | n => n⟩
set_option maxRecDepth 100000 in
theorem Yba.sortKeyed : Go.Proofs.SlLaysF0.n6 Yba.prog Yba.sortKeyed_ren := {
  mixed := by kernel_rfl
  f6 := ⟨Yba.f13.name, by decide, Yba.func13.trans (congrArg some (by kernel_rfl))⟩
  f14 := ⟨Yba.f29.name, by decide, Yba.func29.trans (congrArg some (by kernel_rfl))⟩
  f15 := Yba.func30.trans (congrArg some (by kernel_rfl))
  f20 := ⟨Yba.f39.name, by decide, Yba.func39.trans (congrArg some (by kernel_rfl))⟩
  f21 := ⟨Yba.f40.name, by decide, Yba.func40.trans (congrArg some (by kernel_rfl))⟩
  f22 := ⟨Yba.f41.name, by decide, Yba.func41.trans (congrArg some (by kernel_rfl))⟩
  f23 := ⟨Yba.f42.name, by decide, Yba.func42.trans (congrArg some (by kernel_rfl))⟩
  f24 := ⟨Yba.f43.name, by decide, Yba.func43.trans (congrArg some (by kernel_rfl))⟩
  f25 := ⟨Yba.f44.name, by decide, Yba.func44.trans (congrArg some (by kernel_rfl))⟩
  f26 := ⟨Yba.f45.name, by decide, Yba.func45.trans (congrArg some (by kernel_rfl))⟩
  f27 := ⟨Yba.f46.name, by decide, Yba.func46.trans (congrArg some (by kernel_rfl))⟩
  f28 := Yba.func47.trans (congrArg some (by kernel_rfl))
  f29 := Yba.func48.trans (congrArg some (by kernel_rfl))
  f46 := ⟨Yba.f54.name, by decide, Yba.func54.trans (congrArg some (by kernel_rfl))⟩
  f47 := Yba.func55.trans (congrArg some (by kernel_rfl))
  f48 := Yba.func56.trans (congrArg some (by kernel_rfl))
  f49 := ⟨Yba.f57.name, by decide, Yba.func57.trans (congrArg some (by kernel_rfl))⟩
  f50 := ⟨Yba.f58.name, by decide, Yba.func58.trans (congrArg some (by kernel_rfl))⟩
  f57 := ⟨Yba.f59.name, by decide, Yba.func59.trans (congrArg some (by kernel_rfl))⟩
  t0 := Yba.underlying0
  a0 := Yba.isAgg0
  z0 := Yba.sizeOf0
  v0 := Yba.zeroValue0
  t3 := Yba.underlying3
  a3 := Yba.isAgg3
  z3 := Yba.sizeOf3
  v3 := Yba.zeroValue3
  t4 := Yba.underlying4
  a4 := Yba.isAgg4
  z4 := Yba.sizeOf4
  v4 := Yba.zeroValue4
  t5 := Yba.underlying5
  a5 := Yba.isAgg5
  z5 := Yba.sizeOf5
  v5 := Yba.zeroValue5
  t9 := Yba.underlying9
  a9 := Yba.isAgg9
  z9 := Yba.sizeOf9
  v9 := Yba.zeroValue9
  t22 := Yba.underlying68
  a22 := Yba.isAgg68
  z22 := Yba.sizeOf68
  v22 := Yba.zeroValue68
  t25 := Yba.underlying77
  a25 := Yba.isAgg77
  z25 := Yba.sizeOf77
  v25 := Yba.zeroValue77
  t39 := Yba.underlying52
  a39 := Yba.isAgg52
  z39 := Yba.sizeOf52
  v39 := Yba.zeroValue52
  t45 := Yba.underlying104
  a45 := Yba.isAgg104
  z45 := Yba.sizeOf104
  v45 := Yba.zeroValue104
  t46 := Yba.underlying105
  a46 := Yba.isAgg105
  z46 := Yba.sizeOf105
  v46 := Yba.zeroValue105
  t50 := Yba.underlying109
  a50 := Yba.isAgg109
  z50 := Yba.sizeOf109
  v50 := Yba.zeroValue109
  t53 := Yba.underlying24
  a53 := Yba.isAgg24
  z53 := Yba.sizeOf24
  v53 := Yba.zeroValue24
  t55 := Yba.underlying113
  a55 := Yba.isAgg113
  z55 := Yba.sizeOf113
  v55 := Yba.zeroValue113
  t66 := Yba.underlying123
  a66 := Yba.isAgg123
  z66 := Yba.sizeOf123
  v66 := Yba.zeroValue123
  t70 := Yba.underlying127
  a70 := Yba.isAgg127
  z70 := Yba.sizeOf127
  v70 := Yba.zeroValue127
  t76 := Yba.underlying129
  a76 := Yba.isAgg129
  z76 := Yba.sizeOf129
  v76 := Yba.zeroValue129
  t77 := Yba.underlying130
  a77 := Yba.isAgg130
  z77 := Yba.sizeOf130
  v77 := Yba.zeroValue130 }
end Go.Proofs
