/- The contract of slices.SortFunc at ring.ID, laid off the shelf in plain words (lay-plain.mjs). -/
import Derived.Shelf.SlSortCmp.NoneTotal
import Derived.Shelf.SlGeneric
import Derived.Ground.SlsfProg
import Derived.Test.Qxb6618031aProg
namespace Go.Proofs
open Go.Shelf
def Try.sortID_ren : Go.Shelf.Ren := ⟨fun | 6 => 27 | 15 => 34 | 14 => 33 | 28 => 44 | 29 => 45 | 20 => 36 | 21 => 37 | 22 => 38 | 23 => 39 | 24 => 40 | 25 => 41 | 26 => 42 | 27 => 43 | 46 => 47 | 47 => 48 | 48 => 49 | 49 => 50 | 50 => 51 | 57 => 53 | n => n, fun | 22 => 25 | 24 => 30 | 25 => 52 | 3 => 3 | 39 => 56 | 0 => 0 | 53 => 67 | 55 => 27 | 4 => 4 | 46 => 60 | 45 => 59 | 50 => 64 | 5 => 5 | 9 => 9 | 66 => 71 | 70 => 75 | 76 => 78 | 77 => 79 | n => n, fun | n => n⟩
theorem Try.sortID : Go.Proofs.SlLaysF0.n6 Try.prog Try.sortID_ren := {
  mixed := by kernel_rfl
  f6 := ⟨Try.f27.name, by decide, Try.func27.trans (congrArg some (by kernel_rfl))⟩
  f14 := ⟨Try.f33.name, by decide, Try.func33.trans (congrArg some (by kernel_rfl))⟩
  f15 := Try.func34.trans (congrArg some (by kernel_rfl))
  f20 := ⟨Try.f36.name, by decide, Try.func36.trans (congrArg some (by kernel_rfl))⟩
  f21 := ⟨Try.f37.name, by decide, Try.func37.trans (congrArg some (by kernel_rfl))⟩
  f22 := ⟨Try.f38.name, by decide, Try.func38.trans (congrArg some (by kernel_rfl))⟩
  f23 := ⟨Try.f39.name, by decide, Try.func39.trans (congrArg some (by kernel_rfl))⟩
  f24 := ⟨Try.f40.name, by decide, Try.func40.trans (congrArg some (by kernel_rfl))⟩
  f25 := ⟨Try.f41.name, by decide, Try.func41.trans (congrArg some (by kernel_rfl))⟩
  f26 := ⟨Try.f42.name, by decide, Try.func42.trans (congrArg some (by kernel_rfl))⟩
  f27 := ⟨Try.f43.name, by decide, Try.func43.trans (congrArg some (by kernel_rfl))⟩
  f28 := Try.func44.trans (congrArg some (by kernel_rfl))
  f29 := Try.func45.trans (congrArg some (by kernel_rfl))
  f46 := ⟨Try.f47.name, by decide, Try.func47.trans (congrArg some (by kernel_rfl))⟩
  f47 := Try.func48.trans (congrArg some (by kernel_rfl))
  f48 := Try.func49.trans (congrArg some (by kernel_rfl))
  f49 := ⟨Try.f50.name, by decide, Try.func50.trans (congrArg some (by kernel_rfl))⟩
  f50 := ⟨Try.f51.name, by decide, Try.func51.trans (congrArg some (by kernel_rfl))⟩
  f57 := ⟨Try.f53.name, by decide, Try.func53.trans (congrArg some (by kernel_rfl))⟩
  t0 := Try.underlying0
  a0 := Try.isAgg0
  z0 := Try.sizeOf0
  v0 := Try.zeroValue0
  t3 := Try.underlying3
  a3 := Try.isAgg3
  z3 := Try.sizeOf3
  v3 := Try.zeroValue3
  t4 := Try.underlying4
  a4 := Try.isAgg4
  z4 := Try.sizeOf4
  v4 := Try.zeroValue4
  t5 := Try.underlying5
  a5 := Try.isAgg5
  z5 := Try.sizeOf5
  v5 := Try.zeroValue5
  t9 := Try.underlying9
  a9 := Try.isAgg9
  z9 := Try.sizeOf9
  v9 := Try.zeroValue9
  t22 := Try.underlying25
  a22 := Try.isAgg25
  z22 := Try.sizeOf25
  v22 := Try.zeroValue25
  t25 := Try.underlying52
  a25 := Try.isAgg52
  z25 := Try.sizeOf52
  v25 := Try.zeroValue52
  t39 := Try.underlying56
  a39 := Try.isAgg56
  z39 := Try.sizeOf56
  v39 := Try.zeroValue56
  t45 := Try.underlying59
  a45 := Try.isAgg59
  z45 := Try.sizeOf59
  v45 := Try.zeroValue59
  t46 := Try.underlying60
  a46 := Try.isAgg60
  z46 := Try.sizeOf60
  v46 := Try.zeroValue60
  t50 := Try.underlying64
  a50 := Try.isAgg64
  z50 := Try.sizeOf64
  v50 := Try.zeroValue64
  t53 := Try.underlying67
  a53 := Try.isAgg67
  z53 := Try.sizeOf67
  v53 := Try.zeroValue67
  t55 := Try.underlying27
  a55 := Try.isAgg27
  z55 := Try.sizeOf27
  v55 := Try.zeroValue27
  t66 := Try.underlying71
  a66 := Try.isAgg71
  z66 := Try.sizeOf71
  v66 := Try.zeroValue71
  t70 := Try.underlying75
  a70 := Try.isAgg75
  z70 := Try.sizeOf75
  v70 := Try.zeroValue75
  t76 := Try.underlying78
  a76 := Try.isAgg78
  z76 := Try.sizeOf78
  v76 := Try.zeroValue78
  t77 := Try.underlying79
  a77 := Try.isAgg79
  z77 := Try.sizeOf79
  v77 := Try.zeroValue79 }
end Go.Proofs
