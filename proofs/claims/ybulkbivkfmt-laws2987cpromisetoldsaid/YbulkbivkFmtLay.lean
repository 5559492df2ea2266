/-
  DERIVED: THE SHELF's CONTRACTS AT THIS DUMP, IN PLAIN WORDS (tools/lay-plain.mjs out of 'YbulkbivkFmtLayRaw.lean', which tools/lay-shelf.mjs wrote): THE SAME DECLARATIONS UNDER THE SAME NAMES: 'import', 'namespace', 'open', 'def', 'theorem' AND NOTHING ELSE: no command of the shelf's: FOR A HAND-IN. Each laying: the table of numbers ('.._ren') and one theorem, a field a fact of the dump's own or the kernel's comparison; each contract: ONE APPLICATION.
-/
import Derived.Shelf.SlSortCmp.WholeK
import Derived.Shelf.SlSortCmp.NoneTotal
import Derived.Ground.SlsfProg
import Derived.Test.YbulkbivkFmtProg
namespace Go.Proofs
open Go.Shelf
def Ybaf.sortSV_ren : Go.Shelf.Ren := ⟨fun | 6 => 12 | 15 => 18 | 14 => 17 | 28 => 28 | 29 => 29 | 20 => 20 | 21 => 21 | 22 => 22 | 23 => 23 | 24 => 24 | 25 => 25 | 26 => 26 | 27 => 27 | 46 => 30 | 47 => 31 | 48 => 32 | 49 => 33 | 50 => 34 | 57 => 35 | n => n, fun | 22 => 35 | 24 => 27 | 25 => 56 | 3 => 3 | 39 => 61 | 0 => 0 | 53 => 75 | 55 => 77 | 4 => 4 | 46 => 68 | 45 => 67 | 50 => 72 | 5 => 5 | 9 => 9 | 66 => 78 | 70 => 82 | 76 => 84 | 77 => 85 | n => n, fun | n => n⟩
theorem Ybaf.sortSV : Go.Proofs.SlLaysF0.n6 Ybaf.prog Ybaf.sortSV_ren := {
  mixed := by kernel_rfl
  f6 := ⟨Ybaf.f12.name, by decide, Ybaf.func12.trans (congrArg some (by kernel_rfl))⟩
  f14 := ⟨Ybaf.f17.name, by decide, Ybaf.func17.trans (congrArg some (by kernel_rfl))⟩
  f15 := Ybaf.func18.trans (congrArg some (by kernel_rfl))
  f20 := ⟨Ybaf.f20.name, by decide, Ybaf.func20.trans (congrArg some (by kernel_rfl))⟩
  f21 := ⟨Ybaf.f21.name, by decide, Ybaf.func21.trans (congrArg some (by kernel_rfl))⟩
  f22 := ⟨Ybaf.f22.name, by decide, Ybaf.func22.trans (congrArg some (by kernel_rfl))⟩
  f23 := ⟨Ybaf.f23.name, by decide, Ybaf.func23.trans (congrArg some (by kernel_rfl))⟩
  f24 := ⟨Ybaf.f24.name, by decide, Ybaf.func24.trans (congrArg some (by kernel_rfl))⟩
  f25 := ⟨Ybaf.f25.name, by decide, Ybaf.func25.trans (congrArg some (by kernel_rfl))⟩
  f26 := ⟨Ybaf.f26.name, by decide, Ybaf.func26.trans (congrArg some (by kernel_rfl))⟩
  f27 := ⟨Ybaf.f27.name, by decide, Ybaf.func27.trans (congrArg some (by kernel_rfl))⟩
  f28 := Ybaf.func28.trans (congrArg some (by kernel_rfl))
  f29 := Ybaf.func29.trans (congrArg some (by kernel_rfl))
  f46 := ⟨Ybaf.f30.name, by decide, Ybaf.func30.trans (congrArg some (by kernel_rfl))⟩
  f47 := Ybaf.func31.trans (congrArg some (by kernel_rfl))
  f48 := Ybaf.func32.trans (congrArg some (by kernel_rfl))
  f49 := ⟨Ybaf.f33.name, by decide, Ybaf.func33.trans (congrArg some (by kernel_rfl))⟩
  f50 := ⟨Ybaf.f34.name, by decide, Ybaf.func34.trans (congrArg some (by kernel_rfl))⟩
  f57 := ⟨Ybaf.f35.name, by decide, Ybaf.func35.trans (congrArg some (by kernel_rfl))⟩
  t0 := Ybaf.underlying0
  a0 := Ybaf.isAgg0
  z0 := Ybaf.sizeOf0
  v0 := Ybaf.zeroValue0
  t3 := Ybaf.underlying3
  a3 := Ybaf.isAgg3
  z3 := Ybaf.sizeOf3
  v3 := Ybaf.zeroValue3
  t4 := Ybaf.underlying4
  a4 := Ybaf.isAgg4
  z4 := Ybaf.sizeOf4
  v4 := Ybaf.zeroValue4
  t5 := Ybaf.underlying5
  a5 := Ybaf.isAgg5
  z5 := Ybaf.sizeOf5
  v5 := Ybaf.zeroValue5
  t9 := Ybaf.underlying9
  a9 := Ybaf.isAgg9
  z9 := Ybaf.sizeOf9
  v9 := Ybaf.zeroValue9
  t22 := Ybaf.underlying35
  a22 := Ybaf.isAgg35
  z22 := Ybaf.sizeOf35
  v22 := Ybaf.zeroValue35
  t25 := Ybaf.underlying56
  a25 := Ybaf.isAgg56
  z25 := Ybaf.sizeOf56
  v25 := Ybaf.zeroValue56
  t39 := Ybaf.underlying61
  a39 := Ybaf.isAgg61
  z39 := Ybaf.sizeOf61
  v39 := Ybaf.zeroValue61
  t45 := Ybaf.underlying67
  a45 := Ybaf.isAgg67
  z45 := Ybaf.sizeOf67
  v45 := Ybaf.zeroValue67
  t46 := Ybaf.underlying68
  a46 := Ybaf.isAgg68
  z46 := Ybaf.sizeOf68
  v46 := Ybaf.zeroValue68
  t50 := Ybaf.underlying72
  a50 := Ybaf.isAgg72
  z50 := Ybaf.sizeOf72
  v50 := Ybaf.zeroValue72
  t53 := Ybaf.underlying75
  a53 := Ybaf.isAgg75
  z53 := Ybaf.sizeOf75
  v53 := Ybaf.zeroValue75
  t55 := Ybaf.underlying77
  a55 := Ybaf.isAgg77
  z55 := Ybaf.sizeOf77
  v55 := Ybaf.zeroValue77
  t66 := Ybaf.underlying78
  a66 := Ybaf.isAgg78
  z66 := Ybaf.sizeOf78
  v66 := Ybaf.zeroValue78
  t70 := Ybaf.underlying82
  a70 := Ybaf.isAgg82
  z70 := Ybaf.sizeOf82
  v70 := Ybaf.zeroValue82
  t76 := Ybaf.underlying84
  a76 := Ybaf.isAgg84
  z76 := Ybaf.sizeOf84
  v76 := Ybaf.zeroValue84
  t77 := Ybaf.underlying85
  a77 := Ybaf.isAgg85
  z77 := Ybaf.sizeOf85
  v77 := Ybaf.zeroValue85 }
end Go.Proofs
