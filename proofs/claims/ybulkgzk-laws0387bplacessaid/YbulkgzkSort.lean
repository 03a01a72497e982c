/-
  OWN TEXT: the numbers under which this dump bears slices.SortFunc at places, as the kit's tool 'lay-plain.mjs' wrote them: one laying.
-/
import Derived.Shelf.SlSortCmp.WholeK
import Derived.Test.YbulkgzkProg
namespace Go.Proofs
open Go.Shelf
def Yba.sortPl_ren : Go.Shelf.Ren := ⟨fun | 6 => 19 | 15 => 30 | 14 => 29 | 28 => 47 | 29 => 48 | 20 => 39 | 21 => 40 | 22 => 41 | 23 => 42 | 24 => 43 | 25 => 44 | 26 => 45 | 27 => 46 | 46 => 59 | 47 => 60 | 48 => 61 | 49 => 62 | 50 => 63 | 57 => 71 | n => n, fun | 22 => 75 | 24 => 78 | 25 => 91 | 3 => 3 | 39 => 98 | 0 => 0 | 53 => 24 | 55 => 64 | 4 => 4 | 46 => 107 | 45 => 106 | 50 => 111 | 5 => 5 | 9 => 9 | 66 => 122 | 70 => 126 | 76 => 133 | 77 => 134 | n => n, fun | n => n⟩
theorem Yba.sortPl : Go.Proofs.SlLaysF0.n6 Yba.prog Yba.sortPl_ren := {
  mixed := by kernel_rfl
  f6 := ⟨Yba.f19.name, by decide, Yba.func19.trans (congrArg some (by kernel_rfl))⟩
  f14 := ⟨Yba.f29.name, by decide, Yba.func29.trans (congrArg some (by kernel_rfl))⟩
  f15 := Yba.func30.trans (congrArg some (by kernel_rfl))
  f20 := ⟨Yba.f39.name, by decide, Yba.func39.trans (congrArg some (by kernel_rfl))⟩
  f21 := ⟨Yba.f40.name, by decide, Yba.func40.trans (congrArg some (by kernel_rfl))⟩
  f22 := ⟨Yba.f41.name, by decide, Yba.func41.trans (congrArg some (by kernel_rfl))⟩
  f23 := ⟨Yba.f42.name, by decide, Yba.func42.trans (congrArg some (by kernel_rfl))⟩
  f24 := ⟨Yba.f43.name, by decide, Yba.func43.trans (congrArg some (by kernel_rfl))⟩
  f25 := ⟨Yba.f44.name, by decide, Yba.func44.trans (congrArg some (by kernel_rfl))⟩
  f26 := ⟨Yba.f45.name, by decide, Yba.func45.trans (congrArg some (by kernel_rfl))⟩
  f27 := ⟨Yba.f46.name, by decide, Yba.func46.trans (congrArg some (by kernel_rfl))⟩
  f28 := Yba.func47.trans (congrArg some (by kernel_rfl))
  f29 := Yba.func48.trans (congrArg some (by kernel_rfl))
  f46 := ⟨Yba.f59.name, by decide, Yba.func59.trans (congrArg some (by kernel_rfl))⟩
  f47 := Yba.func60.trans (congrArg some (by kernel_rfl))
  f48 := Yba.func61.trans (congrArg some (by kernel_rfl))
  f49 := ⟨Yba.f62.name, by decide, Yba.func62.trans (congrArg some (by kernel_rfl))⟩
  f50 := ⟨Yba.f63.name, by decide, Yba.func63.trans (congrArg some (by kernel_rfl))⟩
  f57 := ⟨Yba.f71.name, by decide, Yba.func71.trans (congrArg some (by kernel_rfl))⟩
  t0 := Yba.underlying0
  a0 := Yba.isAgg0
  z0 := Yba.sizeOf0
  v0 := Yba.zeroValue0
  t3 := Yba.underlying3
  a3 := Yba.isAgg3
  z3 := Yba.sizeOf3
  v3 := Yba.zeroValue3
  t4 := Yba.underlying4
  a4 := Yba.isAgg4
  z4 := Yba.sizeOf4
  v4 := Yba.zeroValue4
  t5 := Yba.underlying5
  a5 := Yba.isAgg5
  z5 := Yba.sizeOf5
  v5 := Yba.zeroValue5
  t9 := Yba.underlying9
  a9 := Yba.isAgg9
  z9 := Yba.sizeOf9
  v9 := Yba.zeroValue9
  t22 := Yba.underlying75
  a22 := Yba.isAgg75
  z22 := Yba.sizeOf75
  v22 := Yba.zeroValue75
  t25 := Yba.underlying91
  a25 := Yba.isAgg91
  z25 := Yba.sizeOf91
  v25 := Yba.zeroValue91
  t39 := Yba.underlying98
  a39 := Yba.isAgg98
  z39 := Yba.sizeOf98
  v39 := Yba.zeroValue98
  t45 := Yba.underlying106
  a45 := Yba.isAgg106
  z45 := Yba.sizeOf106
  v45 := Yba.zeroValue106
  t46 := Yba.underlying107
  a46 := Yba.isAgg107
  z46 := Yba.sizeOf107
  v46 := Yba.zeroValue107
  t50 := Yba.underlying111
  a50 := Yba.isAgg111
  z50 := Yba.sizeOf111
  v50 := Yba.zeroValue111
  t53 := Yba.underlying24
  a53 := Yba.isAgg24
  z53 := Yba.sizeOf24
  v53 := Yba.zeroValue24
  t55 := Yba.underlying64
  a55 := Yba.isAgg64
  z55 := Yba.sizeOf64
  v55 := Yba.zeroValue64
  t66 := Yba.underlying122
  a66 := Yba.isAgg122
  z66 := Yba.sizeOf122
  v66 := Yba.zeroValue122
  t70 := Yba.underlying126
  a70 := Yba.isAgg126
  z70 := Yba.sizeOf126
  v70 := Yba.zeroValue126
  t76 := Yba.underlying133
  a76 := Yba.isAgg133
  z76 := Yba.sizeOf133
  v76 := Yba.zeroValue133
  t77 := Yba.underlying134
  a77 := Yba.isAgg134
  z77 := Yba.sizeOf134
  v77 := Yba.zeroValue134 }
end Go.Proofs
