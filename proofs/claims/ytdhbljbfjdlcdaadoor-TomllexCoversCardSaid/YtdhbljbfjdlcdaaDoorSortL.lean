/-
  The shelf's laying of SlLaysF0.n6 at this dump, in plain words. Laid by wip/gen/layplain.py.
-/
import Derived.Shelf.SlSortCmp.WholeK
import Derived.Test.YtdhbljbfjdlcdaaDoorProg
namespace Go.Proofs
open Go.Shelf
def Tryd.sortS_ren : Go.Shelf.Ren := ⟨fun | 6 => 14 | 15 => 29 | 14 => 28 | 28 => 56 | 29 => 57 | 20 => 48 | 21 => 49 | 22 => 50 | 23 => 51 | 24 => 52 | 25 => 53 | 26 => 54 | 27 => 55 | 46 => 78 | 47 => 79 | 48 => 80 | 49 => 81 | 50 => 82 | 57 => 93 | n => n, fun | 22 => 42 | 24 => 43 | 25 => 45 | 3 => 3 | 39 => 64 | 0 => 0 | 53 => 91 | 55 => 93 | 4 => 4 | 46 => 84 | 45 => 83 | 50 => 88 | 5 => 5 | 9 => 9 | 66 => 114 | 70 => 118 | 76 => 134 | 77 => 78 | n => n, fun n => n⟩
theorem Tryd.sortS : SlLaysF0.n6 Tryd.prog Tryd.sortS_ren := {
  mixed := by kernel_rfl
  f6 := ⟨"slices.SortFunc[[][2]int,[2]int]", by decide, Tryd.func14.trans (congrArg some (by kernel_rfl))⟩
  f14 := ⟨"slices.pdqsortCmpFunc[[2]int]", by decide, Tryd.func28.trans (congrArg some (by kernel_rfl))⟩
  f15 := Tryd.func29.trans (congrArg some (by kernel_rfl))
  f20 := ⟨"slices.insertionSortCmpFunc[[2]int]", by decide, Tryd.func48.trans (congrArg some (by kernel_rfl))⟩
  f21 := ⟨"slices.heapSortCmpFunc[[2]int]", by decide, Tryd.func49.trans (congrArg some (by kernel_rfl))⟩
  f22 := ⟨"slices.breakPatternsCmpFunc[[2]int]", by decide, Tryd.func50.trans (congrArg some (by kernel_rfl))⟩
  f23 := ⟨"slices.choosePivotCmpFunc[[2]int]", by decide, Tryd.func51.trans (congrArg some (by kernel_rfl))⟩
  f24 := ⟨"slices.reverseRangeCmpFunc[[2]int]", by decide, Tryd.func52.trans (congrArg some (by kernel_rfl))⟩
  f25 := ⟨"slices.partialInsertionSortCmpFunc[[2]int]", by decide, Tryd.func53.trans (congrArg some (by kernel_rfl))⟩
  f26 := ⟨"slices.partitionEqualCmpFunc[[2]int]", by decide, Tryd.func54.trans (congrArg some (by kernel_rfl))⟩
  f27 := ⟨"slices.partitionCmpFunc[[2]int]", by decide, Tryd.func55.trans (congrArg some (by kernel_rfl))⟩
  f28 := Tryd.func56.trans (congrArg some (by kernel_rfl))
  f29 := Tryd.func57.trans (congrArg some (by kernel_rfl))
  f46 := ⟨"slices.siftDownCmpFunc[[2]int]", by decide, Tryd.func78.trans (congrArg some (by kernel_rfl))⟩
  f47 := Tryd.func79.trans (congrArg some (by kernel_rfl))
  f48 := Tryd.func80.trans (congrArg some (by kernel_rfl))
  f49 := ⟨"slices.medianAdjacentCmpFunc[[2]int]", by decide, Tryd.func81.trans (congrArg some (by kernel_rfl))⟩
  f50 := ⟨"slices.medianCmpFunc[[2]int]", by decide, Tryd.func82.trans (congrArg some (by kernel_rfl))⟩
  f57 := ⟨"slices.order2CmpFunc[[2]int]", by decide, Tryd.func93.trans (congrArg some (by kernel_rfl))⟩
  t0 := Tryd.underlying0
  a0 := Tryd.isAgg0
  z0 := Tryd.sizeOf0
  v0 := Tryd.zeroValue0
  t3 := Tryd.underlying3
  a3 := Tryd.isAgg3
  z3 := Tryd.sizeOf3
  v3 := Tryd.zeroValue3
  t4 := Tryd.underlying4
  a4 := Tryd.isAgg4
  z4 := Tryd.sizeOf4
  v4 := Tryd.zeroValue4
  t5 := Tryd.underlying5
  a5 := Tryd.isAgg5
  z5 := Tryd.sizeOf5
  v5 := Tryd.zeroValue5
  t9 := Tryd.underlying9
  a9 := Tryd.isAgg9
  z9 := Tryd.sizeOf9
  v9 := Tryd.zeroValue9
  t22 := Tryd.underlying42
  a22 := Tryd.isAgg42
  z22 := Tryd.sizeOf42
  v22 := Tryd.zeroValue42
  t25 := Tryd.underlying45
  a25 := Tryd.isAgg45
  z25 := Tryd.sizeOf45
  v25 := Tryd.zeroValue45
  t39 := Tryd.underlying64
  a39 := Tryd.isAgg64
  z39 := Tryd.sizeOf64
  v39 := Tryd.zeroValue64
  t45 := Tryd.underlying83
  a45 := Tryd.isAgg83
  z45 := Tryd.sizeOf83
  v45 := Tryd.zeroValue83
  t46 := Tryd.underlying84
  a46 := Tryd.isAgg84
  z46 := Tryd.sizeOf84
  v46 := Tryd.zeroValue84
  t50 := Tryd.underlying88
  a50 := Tryd.isAgg88
  z50 := Tryd.sizeOf88
  v50 := Tryd.zeroValue88
  t53 := Tryd.underlying91
  a53 := Tryd.isAgg91
  z53 := Tryd.sizeOf91
  v53 := Tryd.zeroValue91
  t55 := Tryd.underlying93
  a55 := Tryd.isAgg93
  z55 := Tryd.sizeOf93
  v55 := Tryd.zeroValue93
  t66 := Tryd.underlying114
  a66 := Tryd.isAgg114
  z66 := Tryd.sizeOf114
  v66 := Tryd.zeroValue114
  t70 := Tryd.underlying118
  a70 := Tryd.isAgg118
  z70 := Tryd.sizeOf118
  v70 := Tryd.zeroValue118
  t76 := Tryd.underlying134
  a76 := Tryd.isAgg134
  z76 := Tryd.sizeOf134
  v76 := Tryd.zeroValue134
  t77 := Tryd.underlying78
  a77 := Tryd.isAgg78
  z77 := Tryd.sizeOf78
  v77 := Tryd.zeroValue78 }
end Go.Proofs
