/-
  DERIVED: THE SHELF's CONTRACTS AT THIS DUMP, IN PLAIN WORDS (tools/lay-plain.mjs out of 'TrySpanLay.lean', which tools/lay-shelf.mjs wrote): THE SAME DECLARATIONS UNDER THE SAME NAMES: 'import', 'namespace', 'open', 'def', 'theorem' AND NOTHING ELSE: no command of the shelf's: FOR A HAND-IN. Each laying: the table of numbers ('.._ren') and one theorem, a field a fact of the dump's own or the kernel's comparison; each contract: ONE APPLICATION.
-/
import Derived.Shelf.SlGeneric
import Derived.Shelf.SlSortCmp.WholeK
import Derived.Ground.SlsfProg
import Derived.Test.Qxb6613158aProg
namespace Go.Proofs
open Go.Shelf
def Try.sortSpan_ren : Go.Shelf.Ren := ⟨fun | 6 => 33 | 15 => 43 | 14 => 42 | 28 => 57 | 29 => 58 | 20 => 49 | 21 => 50 | 22 => 51 | 23 => 52 | 24 => 53 | 25 => 54 | 26 => 55 | 27 => 56 | 46 => 60 | 47 => 61 | 48 => 62 | 49 => 63 | 50 => 64 | 57 => 65 | n => n, fun | 22 => 80 | 24 => 85 | 25 => 120 | 3 => 3 | 39 => 111 | 0 => 0 | 53 => 57 | 55 => 140 | 4 => 4 | 46 => 133 | 45 => 132 | 50 => 103 | 5 => 5 | 9 => 9 | 66 => 141 | 70 => 145 | 76 => 147 | 77 => 148 | n => n, fun | n => n⟩
theorem Try.sortSpan : Go.Proofs.SlLaysF0.n6 Try.prog Try.sortSpan_ren := {
  mixed := by kernel_rfl
  f6 := ⟨Try.f33.name, by decide, Try.func33.trans (congrArg some (by kernel_rfl))⟩
  f14 := ⟨Try.f42.name, by decide, Try.func42.trans (congrArg some (by kernel_rfl))⟩
  f15 := Try.func43.trans (congrArg some (by kernel_rfl))
  f20 := ⟨Try.f49.name, by decide, Try.func49.trans (congrArg some (by kernel_rfl))⟩
  f21 := ⟨Try.f50.name, by decide, Try.func50.trans (congrArg some (by kernel_rfl))⟩
  f22 := ⟨Try.f51.name, by decide, Try.func51.trans (congrArg some (by kernel_rfl))⟩
  f23 := ⟨Try.f52.name, by decide, Try.func52.trans (congrArg some (by kernel_rfl))⟩
  f24 := ⟨Try.f53.name, by decide, Try.func53.trans (congrArg some (by kernel_rfl))⟩
  f25 := ⟨Try.f54.name, by decide, Try.func54.trans (congrArg some (by kernel_rfl))⟩
  f26 := ⟨Try.f55.name, by decide, Try.func55.trans (congrArg some (by kernel_rfl))⟩
  f27 := ⟨Try.f56.name, by decide, Try.func56.trans (congrArg some (by kernel_rfl))⟩
  f28 := Try.func57.trans (congrArg some (by kernel_rfl))
  f29 := Try.func58.trans (congrArg some (by kernel_rfl))
  f46 := ⟨Try.f60.name, by decide, Try.func60.trans (congrArg some (by kernel_rfl))⟩
  f47 := Try.func61.trans (congrArg some (by kernel_rfl))
  f48 := Try.func62.trans (congrArg some (by kernel_rfl))
  f49 := ⟨Try.f63.name, by decide, Try.func63.trans (congrArg some (by kernel_rfl))⟩
  f50 := ⟨Try.f64.name, by decide, Try.func64.trans (congrArg some (by kernel_rfl))⟩
  f57 := ⟨Try.f65.name, by decide, Try.func65.trans (congrArg some (by kernel_rfl))⟩
  t0 := Try.underlying0
  a0 := Try.isAgg0
  z0 := Try.sizeOf0
  v0 := Try.zeroValue0
  t3 := Try.underlying3
  a3 := Try.isAgg3
  z3 := Try.sizeOf3
  v3 := Try.zeroValue3
  t4 := Try.underlying4
  a4 := Try.isAgg4
  z4 := Try.sizeOf4
  v4 := Try.zeroValue4
  t5 := Try.underlying5
  a5 := Try.isAgg5
  z5 := Try.sizeOf5
  v5 := Try.zeroValue5
  t9 := Try.underlying9
  a9 := Try.isAgg9
  z9 := Try.sizeOf9
  v9 := Try.zeroValue9
  t22 := Try.underlying80
  a22 := Try.isAgg80
  z22 := Try.sizeOf80
  v22 := Try.zeroValue80
  t25 := Try.underlying120
  a25 := Try.isAgg120
  z25 := Try.sizeOf120
  v25 := Try.zeroValue120
  t39 := Try.underlying111
  a39 := Try.isAgg111
  z39 := Try.sizeOf111
  v39 := Try.zeroValue111
  t45 := Try.underlying132
  a45 := Try.isAgg132
  z45 := Try.sizeOf132
  v45 := Try.zeroValue132
  t46 := Try.underlying133
  a46 := Try.isAgg133
  z46 := Try.sizeOf133
  v46 := Try.zeroValue133
  t50 := Try.underlying103
  a50 := Try.isAgg103
  z50 := Try.sizeOf103
  v50 := Try.zeroValue103
  t53 := Try.underlying57
  a53 := Try.isAgg57
  z53 := Try.sizeOf57
  v53 := Try.zeroValue57
  t55 := Try.underlying140
  a55 := Try.isAgg140
  z55 := Try.sizeOf140
  v55 := Try.zeroValue140
  t66 := Try.underlying141
  a66 := Try.isAgg141
  z66 := Try.sizeOf141
  v66 := Try.zeroValue141
  t70 := Try.underlying145
  a70 := Try.isAgg145
  z70 := Try.sizeOf145
  v70 := Try.zeroValue145
  t76 := Try.underlying147
  a76 := Try.isAgg147
  z76 := Try.sizeOf147
  v76 := Try.zeroValue147
  t77 := Try.underlying148
  a77 := Try.isAgg148
  z77 := Try.sizeOf148
  v77 := Try.zeroValue148 }
end Go.Proofs
