/-
  DERIVED: THE SHELF's CONTRACTS AT THIS DUMP, IN PLAIN WORDS (tools/lay-plain.mjs out of 'TrydShelf.lean', which tools/lay-shelf.mjs wrote): THE SAME DECLARATIONS UNDER THE SAME NAMES: 'import', 'namespace', 'open', 'def', 'theorem' AND NOTHING ELSE: no command of the shelf's: FOR A HAND-IN. Each laying: the table of numbers ('.._ren') and one theorem, a field a fact of the dump's own or the kernel's comparison; each contract: ONE APPLICATION.
-/
import Derived.Shelf.SlGeneric
import Derived.Shelf.SlSortCmp.WholeK
import Derived.Ground.SlsfProg
import Derived.Test.YtcofblepdfjhjaaDoorProg
namespace Go.Proofs
open Go.Shelf
def Tryd.sortEnt_ren : Go.Shelf.Ren := ⟨fun | 6 => 60 | 15 => 78 | 14 => 77 | 28 => 100 | 29 => 101 | 20 => 92 | 21 => 93 | 22 => 94 | 23 => 95 | 24 => 96 | 25 => 97 | 26 => 98 | 27 => 99 | 46 => 104 | 47 => 105 | 48 => 106 | 49 => 107 | 50 => 108 | 57 => 109 | n => n, fun | 22 => 105 | 24 => 107 | 25 => 112 | 3 => 3 | 39 => 128 | 0 => 0 | 53 => 146 | 55 => 98 | 4 => 4 | 46 => 140 | 45 => 139 | 50 => 136 | 5 => 5 | 9 => 9 | 66 => 148 | 70 => 152 | 76 => 154 | 77 => 155 | n => n, fun | n => n⟩
theorem Tryd.sortEnt : Go.Proofs.SlLaysF0.n6 Tryd.prog Tryd.sortEnt_ren := {
  mixed := by kernel_rfl
  f6 := ⟨Tryd.f60.name, by decide, Tryd.func60.trans (congrArg some (by kernel_rfl))⟩
  f14 := ⟨Tryd.f77.name, by decide, Tryd.func77.trans (congrArg some (by kernel_rfl))⟩
  f15 := Tryd.func78.trans (congrArg some (by kernel_rfl))
  f20 := ⟨Tryd.f92.name, by decide, Tryd.func92.trans (congrArg some (by kernel_rfl))⟩
  f21 := ⟨Tryd.f93.name, by decide, Tryd.func93.trans (congrArg some (by kernel_rfl))⟩
  f22 := ⟨Tryd.f94.name, by decide, Tryd.func94.trans (congrArg some (by kernel_rfl))⟩
  f23 := ⟨Tryd.f95.name, by decide, Tryd.func95.trans (congrArg some (by kernel_rfl))⟩
  f24 := ⟨Tryd.f96.name, by decide, Tryd.func96.trans (congrArg some (by kernel_rfl))⟩
  f25 := ⟨Tryd.f97.name, by decide, Tryd.func97.trans (congrArg some (by kernel_rfl))⟩
  f26 := ⟨Tryd.f98.name, by decide, Tryd.func98.trans (congrArg some (by kernel_rfl))⟩
  f27 := ⟨Tryd.f99.name, by decide, Tryd.func99.trans (congrArg some (by kernel_rfl))⟩
  f28 := Tryd.func100.trans (congrArg some (by kernel_rfl))
  f29 := Tryd.func101.trans (congrArg some (by kernel_rfl))
  f46 := ⟨Tryd.f104.name, by decide, Tryd.func104.trans (congrArg some (by kernel_rfl))⟩
  f47 := Tryd.func105.trans (congrArg some (by kernel_rfl))
  f48 := Tryd.func106.trans (congrArg some (by kernel_rfl))
  f49 := ⟨Tryd.f107.name, by decide, Tryd.func107.trans (congrArg some (by kernel_rfl))⟩
  f50 := ⟨Tryd.f108.name, by decide, Tryd.func108.trans (congrArg some (by kernel_rfl))⟩
  f57 := ⟨Tryd.f109.name, by decide, Tryd.func109.trans (congrArg some (by kernel_rfl))⟩
  t0 := Tryd.underlying0
  a0 := Tryd.isAgg0
  z0 := Tryd.sizeOf0
  v0 := Tryd.zeroValue0
  t3 := Tryd.underlying3
  a3 := Tryd.isAgg3
  z3 := Tryd.sizeOf3
  v3 := Tryd.zeroValue3
  t4 := Tryd.underlying4
  a4 := Tryd.isAgg4
  z4 := Tryd.sizeOf4
  v4 := Tryd.zeroValue4
  t5 := Tryd.underlying5
  a5 := Tryd.isAgg5
  z5 := Tryd.sizeOf5
  v5 := Tryd.zeroValue5
  t9 := Tryd.underlying9
  a9 := Tryd.isAgg9
  z9 := Tryd.sizeOf9
  v9 := Tryd.zeroValue9
  t22 := Tryd.underlying105
  a22 := Tryd.isAgg105
  z22 := Tryd.sizeOf105
  v22 := Tryd.zeroValue105
  t25 := Tryd.underlying112
  a25 := Tryd.isAgg112
  z25 := Tryd.sizeOf112
  v25 := Tryd.zeroValue112
  t39 := Tryd.underlying128
  a39 := Tryd.isAgg128
  z39 := Tryd.sizeOf128
  v39 := Tryd.zeroValue128
  t45 := Tryd.underlying139
  a45 := Tryd.isAgg139
  z45 := Tryd.sizeOf139
  v45 := Tryd.zeroValue139
  t46 := Tryd.underlying140
  a46 := Tryd.isAgg140
  z46 := Tryd.sizeOf140
  v46 := Tryd.zeroValue140
  t50 := Tryd.underlying136
  a50 := Tryd.isAgg136
  z50 := Tryd.sizeOf136
  v50 := Tryd.zeroValue136
  t53 := Tryd.underlying146
  a53 := Tryd.isAgg146
  z53 := Tryd.sizeOf146
  v53 := Tryd.zeroValue146
  t55 := Tryd.underlying98
  a55 := Tryd.isAgg98
  z55 := Tryd.sizeOf98
  v55 := Tryd.zeroValue98
  t66 := Tryd.underlying148
  a66 := Tryd.isAgg148
  z66 := Tryd.sizeOf148
  v66 := Tryd.zeroValue148
  t70 := Tryd.underlying152
  a70 := Tryd.isAgg152
  z70 := Tryd.sizeOf152
  v70 := Tryd.zeroValue152
  t76 := Tryd.underlying154
  a76 := Tryd.isAgg154
  z76 := Tryd.sizeOf154
  v76 := Tryd.zeroValue154
  t77 := Tryd.underlying155
  a77 := Tryd.isAgg155
  z77 := Tryd.sizeOf155
  v77 := Tryd.zeroValue155 }
end Go.Proofs
