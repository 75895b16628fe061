/-
  The laying of the shelf contract of slices.SortFunc at this dump (written by the kit tool for this program).
-/
import Derived.Shelf.SlSortCmp.WholeK

import Derived.Test.YbulkexnkwProg
set_option maxRecDepth 100000
namespace Go.Proofs
open Go.Shelf
def Yba.sortEnt_ren : Go.Shelf.Ren := ⟨fun | 6 => 4 | 15 => 19 | 14 => 18 | 28 => 47 | 29 => 48 | 20 => 39 | 21 => 40 | 22 => 41 | 23 => 42 | 24 => 43 | 25 => 44 | 26 => 45 | 27 => 46 | 46 => 59 | 47 => 60 | 48 => 61 | 49 => 62 | 50 => 63 | 57 => 64 | n => n, fun | 22 => 39 | 24 => 61 | 25 => 64 | 3 => 3 | 39 => 25 | 0 => 0 | 53 => 114 | 55 => 48 | 4 => 4 | 46 => 107 | 45 => 106 | 50 => 111 | 5 => 5 | 9 => 9 | 66 => 119 | 70 => 123 | 76 => 125 | 77 => 126 | n => n, fun | n => n⟩
theorem Yba.sortEnt : Go.Proofs.SlLaysF0.n6 Yba.prog Yba.sortEnt_ren := {
  mixed := by kernel_rfl
  f6 := ⟨Yba.f4.name, by decide, Yba.func4.trans (congrArg some (by kernel_rfl))⟩
  f14 := ⟨Yba.f18.name, by decide, Yba.func18.trans (congrArg some (by kernel_rfl))⟩
  f15 := Yba.func19.trans (congrArg some (by kernel_rfl))
  f20 := ⟨Yba.f39.name, by decide, Yba.func39.trans (congrArg some (by kernel_rfl))⟩
  f21 := ⟨Yba.f40.name, by decide, Yba.func40.trans (congrArg some (by kernel_rfl))⟩
  f22 := ⟨Yba.f41.name, by decide, Yba.func41.trans (congrArg some (by kernel_rfl))⟩
  f23 := ⟨Yba.f42.name, by decide, Yba.func42.trans (congrArg some (by kernel_rfl))⟩
  f24 := ⟨Yba.f43.name, by decide, Yba.func43.trans (congrArg some (by kernel_rfl))⟩
  f25 := ⟨Yba.f44.name, by decide, Yba.func44.trans (congrArg some (by kernel_rfl))⟩
  f26 := ⟨Yba.f45.name, by decide, Yba.func45.trans (congrArg some (by kernel_rfl))⟩
  f27 := ⟨Yba.f46.name, by decide, Yba.func46.trans (congrArg some (by kernel_rfl))⟩
  f28 := Yba.func47.trans (congrArg some (by kernel_rfl))
  f29 := Yba.func48.trans (congrArg some (by kernel_rfl))
  f46 := ⟨Yba.f59.name, by decide, Yba.func59.trans (congrArg some (by kernel_rfl))⟩
  f47 := Yba.func60.trans (congrArg some (by kernel_rfl))
  f48 := Yba.func61.trans (congrArg some (by kernel_rfl))
  f49 := ⟨Yba.f62.name, by decide, Yba.func62.trans (congrArg some (by kernel_rfl))⟩
  f50 := ⟨Yba.f63.name, by decide, Yba.func63.trans (congrArg some (by kernel_rfl))⟩
  f57 := ⟨Yba.f64.name, by decide, Yba.func64.trans (congrArg some (by kernel_rfl))⟩
  t0 := Yba.underlying0
  a0 := Yba.isAgg0
  z0 := Yba.sizeOf0
  v0 := Yba.zeroValue0
  t3 := Yba.underlying3
  a3 := Yba.isAgg3
  z3 := Yba.sizeOf3
  v3 := Yba.zeroValue3
  t4 := Yba.underlying4
  a4 := Yba.isAgg4
  z4 := Yba.sizeOf4
  v4 := Yba.zeroValue4
  t5 := Yba.underlying5
  a5 := Yba.isAgg5
  z5 := Yba.sizeOf5
  v5 := Yba.zeroValue5
  t9 := Yba.underlying9
  a9 := Yba.isAgg9
  z9 := Yba.sizeOf9
  v9 := Yba.zeroValue9
  t22 := Yba.underlying39
  a22 := Yba.isAgg39
  z22 := Yba.sizeOf39
  v22 := Yba.zeroValue39
  t25 := Yba.underlying64
  a25 := Yba.isAgg64
  z25 := Yba.sizeOf64
  v25 := Yba.zeroValue64
  t39 := Yba.underlying25
  a39 := Yba.isAgg25
  z39 := Yba.sizeOf25
  v39 := Yba.zeroValue25
  t45 := Yba.underlying106
  a45 := Yba.isAgg106
  z45 := Yba.sizeOf106
  v45 := Yba.zeroValue106
  t46 := Yba.underlying107
  a46 := Yba.isAgg107
  z46 := Yba.sizeOf107
  v46 := Yba.zeroValue107
  t50 := Yba.underlying111
  a50 := Yba.isAgg111
  z50 := Yba.sizeOf111
  v50 := Yba.zeroValue111
  t53 := Yba.underlying114
  a53 := Yba.isAgg114
  z53 := Yba.sizeOf114
  v53 := Yba.zeroValue114
  t55 := Yba.underlying48
  a55 := Yba.isAgg48
  z55 := Yba.sizeOf48
  v55 := Yba.zeroValue48
  t66 := Yba.underlying119
  a66 := Yba.isAgg119
  z66 := Yba.sizeOf119
  v66 := Yba.zeroValue119
  t70 := Yba.underlying123
  a70 := Yba.isAgg123
  z70 := Yba.sizeOf123
  v70 := Yba.zeroValue123
  t76 := Yba.underlying125
  a76 := Yba.isAgg125
  z76 := Yba.sizeOf125
  v76 := Yba.zeroValue125
  t77 := Yba.underlying126
  a77 := Yba.isAgg126
  z77 := Yba.sizeOf126
  v77 := Yba.zeroValue126 }
end Go.Proofs
