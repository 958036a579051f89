/-
  DERIVED: THE SHELF's CONTRACTS AT THIS DUMP, IN PLAIN WORDS (tools/lay-plain.mjs out of 'YbulkcptoLay.lean', which tools/lay-shelf.mjs wrote): THE SAME DECLARATIONS UNDER THE SAME NAMES: 'import', 'namespace', 'open', 'def', 'theorem' AND NOTHING ELSE: no command of the shelf's: FOR A HAND-IN. Each laying: the table of numbers ('.._ren') and one theorem, a field a fact of the dump's own or the kernel's comparison; each contract: ONE APPLICATION.
-/
import Derived.Test.YbulkcptoProg
import Derived.Shelf.SlSortCmp.NoneTotal
namespace Go.Proofs
open Go.Shelf
def Yba.sortDep_ren : Go.Shelf.Ren := ⟨fun | 6 => 5 | 15 => 10 | 14 => 9 | 28 => 20 | 29 => 21 | 20 => 12 | 21 => 13 | 22 => 14 | 23 => 15 | 24 => 16 | 25 => 17 | 26 => 18 | 27 => 19 | 46 => 23 | 47 => 24 | 48 => 25 | 49 => 26 | 50 => 27 | 57 => 29 | n => n, fun | 22 => 25 | 24 => 31 | 25 => 85 | 3 => 3 | 39 => 92 | 0 => 0 | 53 => 35 | 55 => 43 | 4 => 4 | 46 => 96 | 45 => 95 | 50 => 100 | 5 => 5 | 9 => 9 | 66 => 104 | 70 => 108 | 76 => 110 | 77 => 111 | n => n, fun | n => n⟩
theorem Yba.sortDep : Go.Proofs.SlLaysF0.n6 Yba.prog Yba.sortDep_ren := {
  mixed := by kernel_rfl
  f6 := ⟨Yba.f5.name, by decide, Yba.func5.trans (congrArg some (by kernel_rfl))⟩
  f14 := ⟨Yba.f9.name, by decide, Yba.func9.trans (congrArg some (by kernel_rfl))⟩
  f15 := Yba.func10.trans (congrArg some (by kernel_rfl))
  f20 := ⟨Yba.f12.name, by decide, Yba.func12.trans (congrArg some (by kernel_rfl))⟩
  f21 := ⟨Yba.f13.name, by decide, Yba.func13.trans (congrArg some (by kernel_rfl))⟩
  f22 := ⟨Yba.f14.name, by decide, Yba.func14.trans (congrArg some (by kernel_rfl))⟩
  f23 := ⟨Yba.f15.name, by decide, Yba.func15.trans (congrArg some (by kernel_rfl))⟩
  f24 := ⟨Yba.f16.name, by decide, Yba.func16.trans (congrArg some (by kernel_rfl))⟩
  f25 := ⟨Yba.f17.name, by decide, Yba.func17.trans (congrArg some (by kernel_rfl))⟩
  f26 := ⟨Yba.f18.name, by decide, Yba.func18.trans (congrArg some (by kernel_rfl))⟩
  f27 := ⟨Yba.f19.name, by decide, Yba.func19.trans (congrArg some (by kernel_rfl))⟩
  f28 := Yba.func20.trans (congrArg some (by kernel_rfl))
  f29 := Yba.func21.trans (congrArg some (by kernel_rfl))
  f46 := ⟨Yba.f23.name, by decide, Yba.func23.trans (congrArg some (by kernel_rfl))⟩
  f47 := Yba.func24.trans (congrArg some (by kernel_rfl))
  f48 := Yba.func25.trans (congrArg some (by kernel_rfl))
  f49 := ⟨Yba.f26.name, by decide, Yba.func26.trans (congrArg some (by kernel_rfl))⟩
  f50 := ⟨Yba.f27.name, by decide, Yba.func27.trans (congrArg some (by kernel_rfl))⟩
  f57 := ⟨Yba.f29.name, by decide, Yba.func29.trans (congrArg some (by kernel_rfl))⟩
  t0 := Yba.underlying0
  a0 := Yba.isAgg0
  z0 := Yba.sizeOf0
  v0 := Yba.zeroValue0
  t3 := Yba.underlying3
  a3 := Yba.isAgg3
  z3 := Yba.sizeOf3
  v3 := Yba.zeroValue3
  t4 := Yba.underlying4
  a4 := Yba.isAgg4
  z4 := Yba.sizeOf4
  v4 := Yba.zeroValue4
  t5 := Yba.underlying5
  a5 := Yba.isAgg5
  z5 := Yba.sizeOf5
  v5 := Yba.zeroValue5
  t9 := Yba.underlying9
  a9 := Yba.isAgg9
  z9 := Yba.sizeOf9
  v9 := Yba.zeroValue9
  t22 := Yba.underlying25
  a22 := Yba.isAgg25
  z22 := Yba.sizeOf25
  v22 := Yba.zeroValue25
  t25 := Yba.underlying85
  a25 := Yba.isAgg85
  z25 := Yba.sizeOf85
  v25 := Yba.zeroValue85
  t39 := Yba.underlying92
  a39 := Yba.isAgg92
  z39 := Yba.sizeOf92
  v39 := Yba.zeroValue92
  t45 := Yba.underlying95
  a45 := Yba.isAgg95
  z45 := Yba.sizeOf95
  v45 := Yba.zeroValue95
  t46 := Yba.underlying96
  a46 := Yba.isAgg96
  z46 := Yba.sizeOf96
  v46 := Yba.zeroValue96
  t50 := Yba.underlying100
  a50 := Yba.isAgg100
  z50 := Yba.sizeOf100
  v50 := Yba.zeroValue100
  t53 := Yba.underlying35
  a53 := Yba.isAgg35
  z53 := Yba.sizeOf35
  v53 := Yba.zeroValue35
  t55 := Yba.underlying43
  a55 := Yba.isAgg43
  z55 := Yba.sizeOf43
  v55 := Yba.zeroValue43
  t66 := Yba.underlying104
  a66 := Yba.isAgg104
  z66 := Yba.sizeOf104
  v66 := Yba.zeroValue104
  t70 := Yba.underlying108
  a70 := Yba.isAgg108
  z70 := Yba.sizeOf108
  v70 := Yba.zeroValue108
  t76 := Yba.underlying110
  a76 := Yba.isAgg110
  z76 := Yba.sizeOf110
  v76 := Yba.zeroValue110
  t77 := Yba.underlying111
  a77 := Yba.isAgg111
  z77 := Yba.sizeOf111
  v77 := Yba.zeroValue111 }
end Go.Proofs
