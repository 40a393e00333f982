/-
  DERIVED: THE SHELF's CONTRACTS AT THIS DUMP, IN PLAIN WORDS (tools/lay-plain.mjs out of 'YbulkdczcShelf.lean', which tools/lay-shelf.mjs wrote): THE SAME DECLARATIONS UNDER THE SAME NAMES: 'import', 'namespace', 'open', 'def', 'theorem' AND NOTHING ELSE: no command of the shelf's: FOR A HAND-IN. Each laying: the table of numbers ('.._ren') and one theorem, a field a fact of the dump's own or the kernel's comparison; each contract: ONE APPLICATION.
-/
import Derived.Test.YbulkdczcProg
import Derived.Shelf.SlSortCmp.WholeK
import Derived.Shelf.SlicesE.Clone
import Derived.Shelf.SlicesQ.Equal
namespace Go.Proofs
open Go.Shelf
def Yba.sortL_ren : Go.Shelf.Ren := ⟨fun | 6 => 9 | 15 => 13 | 14 => 12 | 28 => 24 | 29 => 25 | 20 => 16 | 21 => 17 | 22 => 18 | 23 => 19 | 24 => 20 | 25 => 21 | 26 => 22 | 27 => 23 | 46 => 27 | 47 => 28 | 48 => 29 | 49 => 30 | 50 => 31 | 57 => 32 | n => n, fun | 22 => 23 | 24 => 28 | 25 => 43 | 3 => 3 | 39 => 38 | 0 => 0 | 53 => 26 | 55 => 50 | 4 => 4 | 46 => 54 | 45 => 53 | 50 => 45 | 5 => 5 | 9 => 9 | 66 => 62 | 70 => 65 | 76 => 67 | 77 => 34 | n => n, fun | n => n⟩
theorem Yba.sortL : Go.Proofs.SlLaysF0.n6 Yba.prog Yba.sortL_ren := {
  mixed := by kernel_rfl
  f6 := ⟨Yba.f9.name, by decide, Yba.func9.trans (congrArg some (by kernel_rfl))⟩
  f14 := ⟨Yba.f12.name, by decide, Yba.func12.trans (congrArg some (by kernel_rfl))⟩
  f15 := Yba.func13.trans (congrArg some (by kernel_rfl))
  f20 := ⟨Yba.f16.name, by decide, Yba.func16.trans (congrArg some (by kernel_rfl))⟩
  f21 := ⟨Yba.f17.name, by decide, Yba.func17.trans (congrArg some (by kernel_rfl))⟩
  f22 := ⟨Yba.f18.name, by decide, Yba.func18.trans (congrArg some (by kernel_rfl))⟩
  f23 := ⟨Yba.f19.name, by decide, Yba.func19.trans (congrArg some (by kernel_rfl))⟩
  f24 := ⟨Yba.f20.name, by decide, Yba.func20.trans (congrArg some (by kernel_rfl))⟩
  f25 := ⟨Yba.f21.name, by decide, Yba.func21.trans (congrArg some (by kernel_rfl))⟩
  f26 := ⟨Yba.f22.name, by decide, Yba.func22.trans (congrArg some (by kernel_rfl))⟩
  f27 := ⟨Yba.f23.name, by decide, Yba.func23.trans (congrArg some (by kernel_rfl))⟩
  f28 := Yba.func24.trans (congrArg some (by kernel_rfl))
  f29 := Yba.func25.trans (congrArg some (by kernel_rfl))
  f46 := ⟨Yba.f27.name, by decide, Yba.func27.trans (congrArg some (by kernel_rfl))⟩
  f47 := Yba.func28.trans (congrArg some (by kernel_rfl))
  f48 := Yba.func29.trans (congrArg some (by kernel_rfl))
  f49 := ⟨Yba.f30.name, by decide, Yba.func30.trans (congrArg some (by kernel_rfl))⟩
  f50 := ⟨Yba.f31.name, by decide, Yba.func31.trans (congrArg some (by kernel_rfl))⟩
  f57 := ⟨Yba.f32.name, by decide, Yba.func32.trans (congrArg some (by kernel_rfl))⟩
  t0 := Yba.underlying0
  a0 := Yba.isAgg0
  z0 := Yba.sizeOf0
  v0 := Yba.zeroValue0
  t3 := Yba.underlying3
  a3 := Yba.isAgg3
  z3 := Yba.sizeOf3
  v3 := Yba.zeroValue3
  t4 := Yba.underlying4
  a4 := Yba.isAgg4
  z4 := Yba.sizeOf4
  v4 := Yba.zeroValue4
  t5 := Yba.underlying5
  a5 := Yba.isAgg5
  z5 := Yba.sizeOf5
  v5 := Yba.zeroValue5
  t9 := Yba.underlying9
  a9 := Yba.isAgg9
  z9 := Yba.sizeOf9
  v9 := Yba.zeroValue9
  t22 := Yba.underlying23
  a22 := Yba.isAgg23
  z22 := Yba.sizeOf23
  v22 := Yba.zeroValue23
  t25 := Yba.underlying43
  a25 := Yba.isAgg43
  z25 := Yba.sizeOf43
  v25 := Yba.zeroValue43
  t39 := Yba.underlying38
  a39 := Yba.isAgg38
  z39 := Yba.sizeOf38
  v39 := Yba.zeroValue38
  t45 := Yba.underlying53
  a45 := Yba.isAgg53
  z45 := Yba.sizeOf53
  v45 := Yba.zeroValue53
  t46 := Yba.underlying54
  a46 := Yba.isAgg54
  z46 := Yba.sizeOf54
  v46 := Yba.zeroValue54
  t50 := Yba.underlying45
  a50 := Yba.isAgg45
  z50 := Yba.sizeOf45
  v50 := Yba.zeroValue45
  t53 := Yba.underlying26
  a53 := Yba.isAgg26
  z53 := Yba.sizeOf26
  v53 := Yba.zeroValue26
  t55 := Yba.underlying50
  a55 := Yba.isAgg50
  z55 := Yba.sizeOf50
  v55 := Yba.zeroValue50
  t66 := Yba.underlying62
  a66 := Yba.isAgg62
  z66 := Yba.sizeOf62
  v66 := Yba.zeroValue62
  t70 := Yba.underlying65
  a70 := Yba.isAgg65
  z70 := Yba.sizeOf65
  v70 := Yba.zeroValue65
  t76 := Yba.underlying67
  a76 := Yba.isAgg67
  z76 := Yba.sizeOf67
  v76 := Yba.zeroValue67
  t77 := Yba.underlying34
  a77 := Yba.isAgg34
  z77 := Yba.sizeOf34
  v77 := Yba.zeroValue34 }
def Yba.cloneL_ren : Go.Shelf.Ren := ⟨fun | 41 => 6 | n => n, fun | 22 => 23 | 23 => 28 | 4 => 4 | n => n, fun | n => n⟩
theorem Yba.cloneL : Go.Proofs.SlLaysE0.n41 Yba.prog Yba.cloneL_ren := {
  mixed := by kernel_rfl
  f41 := ⟨Yba.f6.name, by decide, Yba.func6.trans (congrArg some (by kernel_rfl))⟩
  t4 := Yba.underlying4
  a4 := Yba.isAgg4
  z4 := Yba.sizeOf4
  v4 := Yba.zeroValue4
  t22 := Yba.underlying23
  a22 := Yba.isAgg23
  z22 := Yba.sizeOf23
  v22 := Yba.zeroValue23 }
def Yba.equalL_ren : Go.Shelf.Ren := ⟨fun | 8 => 8 | n => n, fun | 22 => 23 | 24 => 28 | 4 => 4 | 3 => 3 | 0 => 0 | n => n, fun | n => n⟩
theorem Yba.equalL : Go.Proofs.SlLaysQ.n8 Yba.prog Yba.equalL_ren := {
  mixed := by kernel_rfl
  f8 := ⟨Yba.f8.name, by decide, Yba.func8.trans (congrArg some (by kernel_rfl))⟩
  t0 := Yba.underlying0
  a0 := Yba.isAgg0
  z0 := Yba.sizeOf0
  v0 := Yba.zeroValue0
  t3 := Yba.underlying3
  a3 := Yba.isAgg3
  z3 := Yba.sizeOf3
  v3 := Yba.zeroValue3
  t4 := Yba.underlying4
  a4 := Yba.isAgg4
  z4 := Yba.sizeOf4
  v4 := Yba.zeroValue4
  t22 := Yba.underlying23
  a22 := Yba.isAgg23
  z22 := Yba.sizeOf23
  v22 := Yba.zeroValue23 }
end Go.Proofs
