/-
  DERIVED: THE SHELF's CONTRACTS AT THIS DUMP, IN PLAIN WORDS (tools/lay-plain.mjs out of 'YbulkatiqShelf0.lean', which tools/lay-shelf.mjs wrote): THE SAME DECLARATIONS UNDER THE SAME NAMES: 'import', 'namespace', 'open', 'def', 'theorem' AND NOTHING ELSE: no command of the shelf's: FOR A HAND-IN. Each laying: the table of numbers ('.._ren') and one theorem, a field a fact of the dump's own or the kernel's comparison; each contract: ONE APPLICATION.
-/
import Derived.Shelf.SlSortCmp.SmallK
import Derived.Shelf.Small.Bits
import Derived.Ground.SlsfProg
import Derived.Ground.NamesProg
import Derived.Test.YbulkatiqProg
set_option maxRecDepth 100000
namespace Go.Proofs
open Go.Shelf
def Yba.sortCells_ren : Go.Shelf.Ren := ⟨fun | 6 => 32 | 15 => 50 | 14 => 49 | 28 => 62 | 29 => 63 | 20 => 54 | 21 => 55 | 22 => 56 | 23 => 57 | 24 => 58 | 25 => 59 | 26 => 60 | 27 => 61 | 46 => 65 | 47 => 66 | 48 => 67 | 49 => 68 | 50 => 69 | 57 => 72 | n => n, fun | 22 => 53 | 24 => 55 | 25 => 90 | 3 => 3 | 39 => 59 | 0 => 0 | 53 => 42 | 55 => 118 | 4 => 4 | 46 => 111 | 45 => 110 | 50 => 87 | 5 => 5 | 9 => 9 | 66 => 120 | 70 => 124 | 76 => 128 | 77 => 129 | n => n, fun | n => n⟩
theorem Yba.sortCells : Go.Proofs.SlLaysF0.n6 Yba.prog Yba.sortCells_ren := {
  mixed := by kernel_rfl
  f6 := ⟨Yba.f32.name, by decide, Yba.func32.trans (congrArg some (by kernel_rfl))⟩
  f14 := ⟨Yba.f49.name, by decide, Yba.func49.trans (congrArg some (by kernel_rfl))⟩
  f15 := Yba.func50.trans (congrArg some (by kernel_rfl))
  f20 := ⟨Yba.f54.name, by decide, Yba.func54.trans (congrArg some (by kernel_rfl))⟩
  f21 := ⟨Yba.f55.name, by decide, Yba.func55.trans (congrArg some (by kernel_rfl))⟩
  f22 := ⟨Yba.f56.name, by decide, Yba.func56.trans (congrArg some (by kernel_rfl))⟩
  f23 := ⟨Yba.f57.name, by decide, Yba.func57.trans (congrArg some (by kernel_rfl))⟩
  f24 := ⟨Yba.f58.name, by decide, Yba.func58.trans (congrArg some (by kernel_rfl))⟩
  f25 := ⟨Yba.f59.name, by decide, Yba.func59.trans (congrArg some (by kernel_rfl))⟩
  f26 := ⟨Yba.f60.name, by decide, Yba.func60.trans (congrArg some (by kernel_rfl))⟩
  f27 := ⟨Yba.f61.name, by decide, Yba.func61.trans (congrArg some (by kernel_rfl))⟩
  f28 := Yba.func62.trans (congrArg some (by kernel_rfl))
  f29 := Yba.func63.trans (congrArg some (by kernel_rfl))
  f46 := ⟨Yba.f65.name, by decide, Yba.func65.trans (congrArg some (by kernel_rfl))⟩
  f47 := Yba.func66.trans (congrArg some (by kernel_rfl))
  f48 := Yba.func67.trans (congrArg some (by kernel_rfl))
  f49 := ⟨Yba.f68.name, by decide, Yba.func68.trans (congrArg some (by kernel_rfl))⟩
  f50 := ⟨Yba.f69.name, by decide, Yba.func69.trans (congrArg some (by kernel_rfl))⟩
  f57 := ⟨Yba.f72.name, by decide, Yba.func72.trans (congrArg some (by kernel_rfl))⟩
  t0 := Yba.underlying0
  a0 := Yba.isAgg0
  z0 := Yba.sizeOf0
  v0 := Yba.zeroValue0
  t3 := Yba.underlying3
  a3 := Yba.isAgg3
  z3 := Yba.sizeOf3
  v3 := Yba.zeroValue3
  t4 := Yba.underlying4
  a4 := Yba.isAgg4
  z4 := Yba.sizeOf4
  v4 := Yba.zeroValue4
  t5 := Yba.underlying5
  a5 := Yba.isAgg5
  z5 := Yba.sizeOf5
  v5 := Yba.zeroValue5
  t9 := Yba.underlying9
  a9 := Yba.isAgg9
  z9 := Yba.sizeOf9
  v9 := Yba.zeroValue9
  t22 := Yba.underlying53
  a22 := Yba.isAgg53
  z22 := Yba.sizeOf53
  v22 := Yba.zeroValue53
  t25 := Yba.underlying90
  a25 := Yba.isAgg90
  z25 := Yba.sizeOf90
  v25 := Yba.zeroValue90
  t39 := Yba.underlying59
  a39 := Yba.isAgg59
  z39 := Yba.sizeOf59
  v39 := Yba.zeroValue59
  t45 := Yba.underlying110
  a45 := Yba.isAgg110
  z45 := Yba.sizeOf110
  v45 := Yba.zeroValue110
  t46 := Yba.underlying111
  a46 := Yba.isAgg111
  z46 := Yba.sizeOf111
  v46 := Yba.zeroValue111
  t50 := Yba.underlying87
  a50 := Yba.isAgg87
  z50 := Yba.sizeOf87
  v50 := Yba.zeroValue87
  t53 := Yba.underlying42
  a53 := Yba.isAgg42
  z53 := Yba.sizeOf42
  v53 := Yba.zeroValue42
  t55 := Yba.underlying118
  a55 := Yba.isAgg118
  z55 := Yba.sizeOf118
  v55 := Yba.zeroValue118
  t66 := Yba.underlying120
  a66 := Yba.isAgg120
  z66 := Yba.sizeOf120
  v66 := Yba.zeroValue120
  t70 := Yba.underlying124
  a70 := Yba.isAgg124
  z70 := Yba.sizeOf124
  v70 := Yba.zeroValue124
  t76 := Yba.underlying128
  a76 := Yba.isAgg128
  z76 := Yba.sizeOf128
  v76 := Yba.zeroValue128
  t77 := Yba.underlying129
  a77 := Yba.isAgg129
  z77 := Yba.sizeOf129
  v77 := Yba.zeroValue129 }
def Yba.bitsLen_ren : Go.Shelf.Ren := ⟨fun | 125 => 50 | 128 => 62 | 129 => 63 | n => n, fun | 46 => 59 | 3 => 3 | 51 => 42 | 53 => 118 | 4 => 4 | 5 => 5 | 9 => 9 | n => n, fun | n => n⟩
theorem Yba.bitsLen : Go.Proofs.Lays.n125 Yba.prog Yba.bitsLen_ren := {
  mixed := by kernel_rfl
  f125 := Yba.func50.trans (congrArg some (by kernel_rfl))
  f128 := Yba.func62.trans (congrArg some (by kernel_rfl))
  f129 := Yba.func63.trans (congrArg some (by kernel_rfl))
  t3 := Yba.underlying3
  a3 := Yba.isAgg3
  z3 := Yba.sizeOf3
  v3 := Yba.zeroValue3
  t4 := Yba.underlying4
  a4 := Yba.isAgg4
  z4 := Yba.sizeOf4
  v4 := Yba.zeroValue4
  t5 := Yba.underlying5
  a5 := Yba.isAgg5
  z5 := Yba.sizeOf5
  v5 := Yba.zeroValue5
  t9 := Yba.underlying9
  a9 := Yba.isAgg9
  z9 := Yba.sizeOf9
  v9 := Yba.zeroValue9
  t46 := Yba.underlying59
  a46 := Yba.isAgg59
  z46 := Yba.sizeOf59
  v46 := Yba.zeroValue59
  t51 := Yba.underlying42
  a51 := Yba.isAgg42
  z51 := Yba.sizeOf42
  v51 := Yba.zeroValue42
  t53 := Yba.underlying118
  a53 := Yba.isAgg118
  z53 := Yba.sizeOf118
  v53 := Yba.zeroValue118 }
end Go.Proofs
