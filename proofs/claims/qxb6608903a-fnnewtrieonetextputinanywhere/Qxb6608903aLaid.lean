/-
  The shelf's laying of slices.SortFunc at this program's instance, in plain words (written by the kit's lay-plain tool).
-/
import Derived.Shelf.SlSortCmp.WholeK
import Derived.Test.Qxb6608903aRows
set_option maxRecDepth 100000
namespace Go.Proofs
open Go.Shelf
def Try.sortTr_ren : Go.Shelf.Ren := ⟨fun | 6 => 31 | 15 => 41 | 14 => 40 | 28 => 53 | 29 => 54 | 20 => 45 | 21 => 46 | 22 => 47 | 23 => 48 | 24 => 49 | 25 => 50 | 26 => 51 | 27 => 52 | 46 => 64 | 47 => 65 | 48 => 66 | 49 => 67 | 50 => 68 | 57 => 73 | n => n, fun | 22 => 63 | 24 => 68 | 25 => 81 | 3 => 3 | 39 => 56 | 0 => 0 | 53 => 102 | 55 => 49 | 4 => 4 | 46 => 95 | 45 => 94 | 50 => 99 | 5 => 5 | 9 => 9 | 66 => 110 | 70 => 114 | 76 => 119 | 77 => 120 | n => n, fun | n => n⟩
theorem Try.sortTr : Go.Proofs.SlLaysF0.n6 Try.prog Try.sortTr_ren := {
  mixed := by kernel_rfl
  f6 := ⟨Try.f31.name, by decide, Try.func31.trans (congrArg some (by kernel_rfl))⟩
  f14 := ⟨Try.f40.name, by decide, Try.func40.trans (congrArg some (by kernel_rfl))⟩
  f15 := Try.func41.trans (congrArg some (by kernel_rfl))
  f20 := ⟨Try.f45.name, by decide, Try.func45.trans (congrArg some (by kernel_rfl))⟩
  f21 := ⟨Try.f46.name, by decide, Try.func46.trans (congrArg some (by kernel_rfl))⟩
  f22 := ⟨Try.f47.name, by decide, Try.func47.trans (congrArg some (by kernel_rfl))⟩
  f23 := ⟨Try.f48.name, by decide, Try.func48.trans (congrArg some (by kernel_rfl))⟩
  f24 := ⟨Try.f49.name, by decide, Try.func49.trans (congrArg some (by kernel_rfl))⟩
  f25 := ⟨Try.f50.name, by decide, Try.func50.trans (congrArg some (by kernel_rfl))⟩
  f26 := ⟨Try.f51.name, by decide, Try.func51.trans (congrArg some (by kernel_rfl))⟩
  f27 := ⟨Try.f52.name, by decide, Try.func52.trans (congrArg some (by kernel_rfl))⟩
  f28 := Try.func53.trans (congrArg some (by kernel_rfl))
  f29 := Try.func54.trans (congrArg some (by kernel_rfl))
  f46 := ⟨Try.f64.name, by decide, Try.func64.trans (congrArg some (by kernel_rfl))⟩
  f47 := Try.func65.trans (congrArg some (by kernel_rfl))
  f48 := Try.func66.trans (congrArg some (by kernel_rfl))
  f49 := ⟨Try.f67.name, by decide, Try.func67.trans (congrArg some (by kernel_rfl))⟩
  f50 := ⟨Try.f68.name, by decide, Try.func68.trans (congrArg some (by kernel_rfl))⟩
  f57 := ⟨Try.f73.name, by decide, Try.func73.trans (congrArg some (by kernel_rfl))⟩
  t0 := Try.underlying0
  a0 := Try.isAgg0
  z0 := Try.sizeOf0
  v0 := Try.zeroValue0
  t3 := Try.underlying3
  a3 := Try.isAgg3
  z3 := Try.sizeOf3
  v3 := Try.zeroValue3
  t4 := Try.underlying4
  a4 := Try.isAgg4
  z4 := Try.sizeOf4
  v4 := Try.zeroValue4
  t5 := Try.underlying5
  a5 := Try.isAgg5
  z5 := Try.sizeOf5
  v5 := Try.zeroValue5
  t9 := Try.underlying9
  a9 := Try.isAgg9
  z9 := Try.sizeOf9
  v9 := Try.zeroValue9
  t22 := Try.underlying63
  a22 := Try.isAgg63
  z22 := Try.sizeOf63
  v22 := Try.zeroValue63
  t25 := Try.underlying81
  a25 := Try.isAgg81
  z25 := Try.sizeOf81
  v25 := Try.zeroValue81
  t39 := Try.underlying56
  a39 := Try.isAgg56
  z39 := Try.sizeOf56
  v39 := Try.zeroValue56
  t45 := Try.underlying94
  a45 := Try.isAgg94
  z45 := Try.sizeOf94
  v45 := Try.zeroValue94
  t46 := Try.underlying95
  a46 := Try.isAgg95
  z46 := Try.sizeOf95
  v46 := Try.zeroValue95
  t50 := Try.underlying99
  a50 := Try.isAgg99
  z50 := Try.sizeOf99
  v50 := Try.zeroValue99
  t53 := Try.underlying102
  a53 := Try.isAgg102
  z53 := Try.sizeOf102
  v53 := Try.zeroValue102
  t55 := Try.underlying49
  a55 := Try.isAgg49
  z55 := Try.sizeOf49
  v55 := Try.zeroValue49
  t66 := Try.underlying110
  a66 := Try.isAgg110
  z66 := Try.sizeOf110
  v66 := Try.zeroValue110
  t70 := Try.underlying114
  a70 := Try.isAgg114
  z70 := Try.sizeOf114
  v70 := Try.zeroValue114
  t76 := Try.underlying119
  a76 := Try.isAgg119
  z76 := Try.sizeOf119
  v76 := Try.zeroValue119
  t77 := Try.underlying120
  a77 := Try.isAgg120
  z77 := Try.sizeOf120
  v77 := Try.zeroValue120 }
end Go.Proofs
