/-
  DERIVED: THE SHELF's CONTRACTS AT THIS DUMP, IN PLAIN WORDS (tools/lay-plain.mjs out of 'YbulkdvkiShelf.lean', which tools/lay-shelf.mjs wrote): THE SAME DECLARATIONS UNDER THE SAME NAMES: 'import', 'namespace', 'open', 'def', 'theorem' AND NOTHING ELSE: no command of the shelf's: FOR A HAND-IN. Each laying: the table of numbers ('.._ren') and one theorem, a field a fact of the dump's own or the kernel's comparison; each contract: ONE APPLICATION.
-/
import Derived.Test.YbulkdvkiProg
import Derived.Shelf.SlSortCmp.NoneTotal
import Derived.KernelRfl
namespace Go.Proofs
open Go.Shelf
def Yba.sortL_ren : Go.Shelf.Ren := ⟨fun | 6 => 13 | 15 => 19 | 14 => 18 | 28 => 32 | 29 => 33 | 20 => 24 | 21 => 25 | 22 => 26 | 23 => 27 | 24 => 28 | 25 => 29 | 26 => 30 | 27 => 31 | 46 => 38 | 47 => 39 | 48 => 40 | 49 => 41 | 50 => 42 | 57 => 43 | n => n, fun | 22 => 27 | 24 => 30 | 25 => 53 | 3 => 3 | 39 => 58 | 0 => 0 | 53 => 70 | 55 => 72 | 4 => 4 | 46 => 63 | 45 => 62 | 50 => 67 | 5 => 5 | 9 => 9 | 66 => 75 | 70 => 79 | 76 => 81 | 77 => 82 | n => n, fun | n => n⟩
theorem Yba.sortL : Go.Proofs.SlLaysF.n6 Yba.prog Yba.sortL_ren := {
  mixed := by kernel_rfl
  f6 := ⟨Yba.f13.name, by decide, Yba.func13.trans (congrArg some (by kernel_rfl))⟩
  f14 := ⟨Yba.f18.name, by decide, Yba.func18.trans (congrArg some (by kernel_rfl))⟩
  f15 := Yba.func19.trans (congrArg some (by kernel_rfl))
  f20 := ⟨Yba.f24.name, by decide, Yba.func24.trans (congrArg some (by kernel_rfl))⟩
  f21 := ⟨Yba.f25.name, by decide, Yba.func25.trans (congrArg some (by kernel_rfl))⟩
  f22 := ⟨Yba.f26.name, by decide, Yba.func26.trans (congrArg some (by kernel_rfl))⟩
  f23 := ⟨Yba.f27.name, by decide, Yba.func27.trans (congrArg some (by kernel_rfl))⟩
  f24 := ⟨Yba.f28.name, by decide, Yba.func28.trans (congrArg some (by kernel_rfl))⟩
  f25 := ⟨Yba.f29.name, by decide, Yba.func29.trans (congrArg some (by kernel_rfl))⟩
  f26 := ⟨Yba.f30.name, by decide, Yba.func30.trans (congrArg some (by kernel_rfl))⟩
  f27 := ⟨Yba.f31.name, by decide, Yba.func31.trans (congrArg some (by kernel_rfl))⟩
  f28 := Yba.func32.trans (congrArg some (by kernel_rfl))
  f29 := Yba.func33.trans (congrArg some (by kernel_rfl))
  f46 := ⟨Yba.f38.name, by decide, Yba.func38.trans (congrArg some (by kernel_rfl))⟩
  f47 := Yba.func39.trans (congrArg some (by kernel_rfl))
  f48 := Yba.func40.trans (congrArg some (by kernel_rfl))
  f49 := ⟨Yba.f41.name, by decide, Yba.func41.trans (congrArg some (by kernel_rfl))⟩
  f50 := ⟨Yba.f42.name, by decide, Yba.func42.trans (congrArg some (by kernel_rfl))⟩
  f57 := ⟨Yba.f43.name, by decide, Yba.func43.trans (congrArg some (by kernel_rfl))⟩
  t0 := Yba.underlying0
  a0 := Yba.isAgg0
  z0 := Yba.sizeOf0
  v0 := Yba.zeroValue0
  t3 := Yba.underlying3
  a3 := Yba.isAgg3
  z3 := Yba.sizeOf3
  v3 := Yba.zeroValue3
  t4 := Yba.underlying4
  a4 := Yba.isAgg4
  z4 := Yba.sizeOf4
  v4 := Yba.zeroValue4
  t5 := Yba.underlying5
  a5 := Yba.isAgg5
  z5 := Yba.sizeOf5
  v5 := Yba.zeroValue5
  t9 := Yba.underlying9
  a9 := Yba.isAgg9
  z9 := Yba.sizeOf9
  v9 := Yba.zeroValue9
  t22 := Yba.underlying27
  a22 := Yba.isAgg27
  z22 := Yba.sizeOf27
  v22 := Yba.zeroValue27
  a24 := Yba.isAgg30
  z24 := Yba.sizeOf30
  t25 := Yba.underlying53
  a25 := Yba.isAgg53
  z25 := Yba.sizeOf53
  v25 := Yba.zeroValue53
  t39 := Yba.underlying58
  a39 := Yba.isAgg58
  z39 := Yba.sizeOf58
  v39 := Yba.zeroValue58
  t45 := Yba.underlying62
  a45 := Yba.isAgg62
  z45 := Yba.sizeOf62
  v45 := Yba.zeroValue62
  t46 := Yba.underlying63
  a46 := Yba.isAgg63
  z46 := Yba.sizeOf63
  v46 := Yba.zeroValue63
  t50 := Yba.underlying67
  a50 := Yba.isAgg67
  z50 := Yba.sizeOf67
  v50 := Yba.zeroValue67
  t53 := Yba.underlying70
  a53 := Yba.isAgg70
  z53 := Yba.sizeOf70
  v53 := Yba.zeroValue70
  t55 := Yba.underlying72
  a55 := Yba.isAgg72
  z55 := Yba.sizeOf72
  v55 := Yba.zeroValue72
  t66 := Yba.underlying75
  a66 := Yba.isAgg75
  z66 := Yba.sizeOf75
  v66 := Yba.zeroValue75
  t70 := Yba.underlying79
  a70 := Yba.isAgg79
  z70 := Yba.sizeOf79
  v70 := Yba.zeroValue79
  t76 := Yba.underlying81
  a76 := Yba.isAgg81
  z76 := Yba.sizeOf81
  v76 := Yba.zeroValue81
  t77 := Yba.underlying82
  a77 := Yba.isAgg82
  z77 := Yba.sizeOf82
  v77 := Yba.zeroValue82 }
end Go.Proofs
