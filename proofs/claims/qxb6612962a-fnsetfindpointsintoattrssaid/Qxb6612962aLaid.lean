/-
  Seat b6612962a: slices.SortFunc at eval.Attr: the shelf's laying (SlLaysF0.n6), in plain words: which of this program's functions and types stand for the shelf's.
-/
import Derived.Shelf.SlSortCmp.WholeK
import Derived.Test.Qxb6612962aProg
namespace Go.Proofs.Qxb6612962a.Sets
open Go.Shelf

def sortA_ren : Go.Shelf.Ren := ⟨fun | 6 => 41 | 15 => 47 | 14 => 46 | 28 => 58 | 29 => 59 | 20 => 50 | 21 => 51 | 22 => 52 | 23 => 53 | 24 => 54 | 25 => 55 | 26 => 56 | 27 => 57 | 46 => 68 | 47 => 69 | 48 => 70 | 49 => 71 | 50 => 72 | 57 => 78 | n => n, fun | 22 => 29 | 24 => 36 | 25 => 65 | 3 => 3 | 39 => 72 | 0 => 0 | 53 => 88 | 55 => 90 | 4 => 4 | 46 => 81 | 45 => 80 | 50 => 85 | 5 => 5 | 9 => 9 | 66 => 98 | 70 => 102 | 76 => 108 | 77 => 109 | n => n, fun | n => n⟩

theorem sortA : Go.Proofs.SlLaysF0.n6 Try.prog sortA_ren := {
  mixed := by kernel_rfl
  f6 := ⟨Try.f41.name, by decide, Try.func41.trans (congrArg some (by kernel_rfl))⟩
  f14 := ⟨Try.f46.name, by decide, Try.func46.trans (congrArg some (by kernel_rfl))⟩
  f15 := Try.func47.trans (congrArg some (by kernel_rfl))
  f20 := ⟨Try.f50.name, by decide, Try.func50.trans (congrArg some (by kernel_rfl))⟩
  f21 := ⟨Try.f51.name, by decide, Try.func51.trans (congrArg some (by kernel_rfl))⟩
  f22 := ⟨Try.f52.name, by decide, Try.func52.trans (congrArg some (by kernel_rfl))⟩
  f23 := ⟨Try.f53.name, by decide, Try.func53.trans (congrArg some (by kernel_rfl))⟩
  f24 := ⟨Try.f54.name, by decide, Try.func54.trans (congrArg some (by kernel_rfl))⟩
  f25 := ⟨Try.f55.name, by decide, Try.func55.trans (congrArg some (by kernel_rfl))⟩
  f26 := ⟨Try.f56.name, by decide, Try.func56.trans (congrArg some (by kernel_rfl))⟩
  f27 := ⟨Try.f57.name, by decide, Try.func57.trans (congrArg some (by kernel_rfl))⟩
  f28 := Try.func58.trans (congrArg some (by kernel_rfl))
  f29 := Try.func59.trans (congrArg some (by kernel_rfl))
  f46 := ⟨Try.f68.name, by decide, Try.func68.trans (congrArg some (by kernel_rfl))⟩
  f47 := Try.func69.trans (congrArg some (by kernel_rfl))
  f48 := Try.func70.trans (congrArg some (by kernel_rfl))
  f49 := ⟨Try.f71.name, by decide, Try.func71.trans (congrArg some (by kernel_rfl))⟩
  f50 := ⟨Try.f72.name, by decide, Try.func72.trans (congrArg some (by kernel_rfl))⟩
  f57 := ⟨Try.f78.name, by decide, Try.func78.trans (congrArg some (by kernel_rfl))⟩
  t0 := Try.underlying0
  a0 := Try.isAgg0
  z0 := Try.sizeOf0
  v0 := Try.zeroValue0
  t3 := Try.underlying3
  a3 := Try.isAgg3
  z3 := Try.sizeOf3
  v3 := Try.zeroValue3
  t4 := Try.underlying4
  a4 := Try.isAgg4
  z4 := Try.sizeOf4
  v4 := Try.zeroValue4
  t5 := Try.underlying5
  a5 := Try.isAgg5
  z5 := Try.sizeOf5
  v5 := Try.zeroValue5
  t9 := Try.underlying9
  a9 := Try.isAgg9
  z9 := Try.sizeOf9
  v9 := Try.zeroValue9
  t22 := Try.underlying29
  a22 := Try.isAgg29
  z22 := Try.sizeOf29
  v22 := Try.zeroValue29
  t25 := Try.underlying65
  a25 := Try.isAgg65
  z25 := Try.sizeOf65
  v25 := Try.zeroValue65
  t39 := Try.underlying72
  a39 := Try.isAgg72
  z39 := Try.sizeOf72
  v39 := Try.zeroValue72
  t45 := Try.underlying80
  a45 := Try.isAgg80
  z45 := Try.sizeOf80
  v45 := Try.zeroValue80
  t46 := Try.underlying81
  a46 := Try.isAgg81
  z46 := Try.sizeOf81
  v46 := Try.zeroValue81
  t50 := Try.underlying85
  a50 := Try.isAgg85
  z50 := Try.sizeOf85
  v50 := Try.zeroValue85
  t53 := Try.underlying88
  a53 := Try.isAgg88
  z53 := Try.sizeOf88
  v53 := Try.zeroValue88
  t55 := Try.underlying90
  a55 := Try.isAgg90
  z55 := Try.sizeOf90
  v55 := Try.zeroValue90
  t66 := Try.underlying98
  a66 := Try.isAgg98
  z66 := Try.sizeOf98
  v66 := Try.zeroValue98
  t70 := Try.underlying102
  a70 := Try.isAgg102
  z70 := Try.sizeOf102
  v70 := Try.zeroValue102
  t76 := Try.underlying108
  a76 := Try.isAgg108
  z76 := Try.sizeOf108
  v76 := Try.zeroValue108
  t77 := Try.underlying109
  a77 := Try.isAgg109
  z77 := Try.sizeOf109
  v77 := Try.zeroValue109 }

end Go.Proofs.Qxb6612962a.Sets
