/-
  DERIVED: THE SHELF's CONTRACTS AT THIS DUMP, IN PLAIN WORDS (tools/lay-plain.mjs out of 'YbulkdnbwShelf.lean', which tools/lay-shelf.mjs wrote): THE SAME DECLARATIONS UNDER THE SAME NAMES: 'import', 'namespace', 'open', 'def', 'theorem' AND NOTHING ELSE: no command of the shelf's: FOR A HAND-IN. Each laying: the table of numbers ('.._ren') and one theorem, a field a fact of the dump's own or the kernel's comparison; each contract: ONE APPLICATION.
-/
import Derived.Shelf.SlGeneric
import Derived.Shelf.SlSortCmp.NoneTotal
import Derived.Shelf.SlicesE.Clone
import Derived.Shelf.SlicesQ.Equal
import Derived.Ground.SlsfProg
import Derived.Ground.SlgnProg
import Derived.Ground.SlgqProg
import Derived.Test.YbulkdnbwProg
set_option maxRecDepth 100000
set_option maxHeartbeats 4000000
namespace Go.Proofs
open Go.Shelf
def Yba.sortL_ren : Go.Shelf.Ren := ⟨fun | 6 => 14 | 15 => 20 | 14 => 19 | 28 => 31 | 29 => 32 | 20 => 23 | 21 => 24 | 22 => 25 | 23 => 26 | 24 => 27 | 25 => 28 | 26 => 29 | 27 => 30 | 46 => 34 | 47 => 35 | 48 => 36 | 49 => 37 | 50 => 38 | 57 => 40 | n => n, fun | 22 => 22 | 24 => 26 | 25 => 45 | 3 => 3 | 39 => 61 | 0 => 0 | 53 => 73 | 55 => 75 | 4 => 4 | 46 => 66 | 45 => 65 | 50 => 70 | 5 => 5 | 9 => 9 | 66 => 76 | 70 => 80 | 76 => 82 | 77 => 83 | n => n, fun | n => n⟩
theorem Yba.sortL : Go.Proofs.SlLaysF0.n6 Yba.prog Yba.sortL_ren := {
  mixed := by kernel_rfl
  f6 := ⟨Yba.f14.name, by decide, Yba.func14.trans (congrArg some (by kernel_rfl))⟩
  f14 := ⟨Yba.f19.name, by decide, Yba.func19.trans (congrArg some (by kernel_rfl))⟩
  f15 := Yba.func20.trans (congrArg some (by kernel_rfl))
  f20 := ⟨Yba.f23.name, by decide, Yba.func23.trans (congrArg some (by kernel_rfl))⟩
  f21 := ⟨Yba.f24.name, by decide, Yba.func24.trans (congrArg some (by kernel_rfl))⟩
  f22 := ⟨Yba.f25.name, by decide, Yba.func25.trans (congrArg some (by kernel_rfl))⟩
  f23 := ⟨Yba.f26.name, by decide, Yba.func26.trans (congrArg some (by kernel_rfl))⟩
  f24 := ⟨Yba.f27.name, by decide, Yba.func27.trans (congrArg some (by kernel_rfl))⟩
  f25 := ⟨Yba.f28.name, by decide, Yba.func28.trans (congrArg some (by kernel_rfl))⟩
  f26 := ⟨Yba.f29.name, by decide, Yba.func29.trans (congrArg some (by kernel_rfl))⟩
  f27 := ⟨Yba.f30.name, by decide, Yba.func30.trans (congrArg some (by kernel_rfl))⟩
  f28 := Yba.func31.trans (congrArg some (by kernel_rfl))
  f29 := Yba.func32.trans (congrArg some (by kernel_rfl))
  f46 := ⟨Yba.f34.name, by decide, Yba.func34.trans (congrArg some (by kernel_rfl))⟩
  f47 := Yba.func35.trans (congrArg some (by kernel_rfl))
  f48 := Yba.func36.trans (congrArg some (by kernel_rfl))
  f49 := ⟨Yba.f37.name, by decide, Yba.func37.trans (congrArg some (by kernel_rfl))⟩
  f50 := ⟨Yba.f38.name, by decide, Yba.func38.trans (congrArg some (by kernel_rfl))⟩
  f57 := ⟨Yba.f40.name, by decide, Yba.func40.trans (congrArg some (by kernel_rfl))⟩
  t0 := Yba.underlying0
  a0 := Yba.isAgg0
  z0 := Yba.sizeOf0
  v0 := Yba.zeroValue0
  t3 := Yba.underlying3
  a3 := Yba.isAgg3
  z3 := Yba.sizeOf3
  v3 := Yba.zeroValue3
  t4 := Yba.underlying4
  a4 := Yba.isAgg4
  z4 := Yba.sizeOf4
  v4 := Yba.zeroValue4
  t5 := Yba.underlying5
  a5 := Yba.isAgg5
  z5 := Yba.sizeOf5
  v5 := Yba.zeroValue5
  t9 := Yba.underlying9
  a9 := Yba.isAgg9
  z9 := Yba.sizeOf9
  v9 := Yba.zeroValue9
  t22 := Yba.underlying22
  a22 := Yba.isAgg22
  z22 := Yba.sizeOf22
  v22 := Yba.zeroValue22
  t25 := Yba.underlying45
  a25 := Yba.isAgg45
  z25 := Yba.sizeOf45
  v25 := Yba.zeroValue45
  t39 := Yba.underlying61
  a39 := Yba.isAgg61
  z39 := Yba.sizeOf61
  v39 := Yba.zeroValue61
  t45 := Yba.underlying65
  a45 := Yba.isAgg65
  z45 := Yba.sizeOf65
  v45 := Yba.zeroValue65
  t46 := Yba.underlying66
  a46 := Yba.isAgg66
  z46 := Yba.sizeOf66
  v46 := Yba.zeroValue66
  t50 := Yba.underlying70
  a50 := Yba.isAgg70
  z50 := Yba.sizeOf70
  v50 := Yba.zeroValue70
  t53 := Yba.underlying73
  a53 := Yba.isAgg73
  z53 := Yba.sizeOf73
  v53 := Yba.zeroValue73
  t55 := Yba.underlying75
  a55 := Yba.isAgg75
  z55 := Yba.sizeOf75
  v55 := Yba.zeroValue75
  t66 := Yba.underlying76
  a66 := Yba.isAgg76
  z66 := Yba.sizeOf76
  v66 := Yba.zeroValue76
  t70 := Yba.underlying80
  a70 := Yba.isAgg80
  z70 := Yba.sizeOf80
  v70 := Yba.zeroValue80
  t76 := Yba.underlying82
  a76 := Yba.isAgg82
  z76 := Yba.sizeOf82
  v76 := Yba.zeroValue82
  t77 := Yba.underlying83
  a77 := Yba.isAgg83
  z77 := Yba.sizeOf83
  v77 := Yba.zeroValue83 }
def Yba.cloneL_ren : Go.Shelf.Ren := ⟨fun | 41 => 13 | n => n, fun | 22 => 22 | 23 => 26 | 4 => 4 | n => n, fun | n => n⟩
theorem Yba.cloneL : Go.Proofs.SlLaysE0.n41 Yba.prog Yba.cloneL_ren := {
  mixed := by kernel_rfl
  f41 := ⟨Yba.f13.name, by decide, Yba.func13.trans (congrArg some (by kernel_rfl))⟩
  t4 := Yba.underlying4
  a4 := Yba.isAgg4
  z4 := Yba.sizeOf4
  v4 := Yba.zeroValue4
  t22 := Yba.underlying22
  a22 := Yba.isAgg22
  z22 := Yba.sizeOf22
  v22 := Yba.zeroValue22 }
def Yba.equalL_ren : Go.Shelf.Ren := ⟨fun | 8 => 15 | n => n, fun | 22 => 22 | 24 => 26 | 4 => 4 | 3 => 3 | 0 => 0 | n => n, fun | n => n⟩
theorem Yba.equalL : Go.Proofs.SlLaysQ.n8 Yba.prog Yba.equalL_ren := {
  mixed := by kernel_rfl
  f8 := ⟨Yba.f15.name, by decide, Yba.func15.trans (congrArg some (by kernel_rfl))⟩
  t0 := Yba.underlying0
  a0 := Yba.isAgg0
  z0 := Yba.sizeOf0
  v0 := Yba.zeroValue0
  t3 := Yba.underlying3
  a3 := Yba.isAgg3
  z3 := Yba.sizeOf3
  v3 := Yba.zeroValue3
  t4 := Yba.underlying4
  a4 := Yba.isAgg4
  z4 := Yba.sizeOf4
  v4 := Yba.zeroValue4
  t22 := Yba.underlying22
  a22 := Yba.isAgg22
  z22 := Yba.sizeOf22
  v22 := Yba.zeroValue22 }
end Go.Proofs
