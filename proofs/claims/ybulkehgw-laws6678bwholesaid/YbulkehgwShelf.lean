/-
  DERIVED: THE SHELF's CONTRACTS AT THIS DUMP, IN PLAIN WORDS (tools/lay-plain.mjs out of 'YbaShelf.lean', which tools/lay-shelf.mjs wrote): THE SAME DECLARATIONS UNDER THE SAME NAMES: 'import', 'namespace', 'open', 'def', 'theorem' AND NOTHING ELSE: no command of the shelf's: FOR A HAND-IN. Each laying: the table of numbers ('.._ren') and one theorem, a field a fact of the dump's own or the kernel's comparison; each contract: ONE APPLICATION.
-/
import Derived.Shelf.SlSortCmp.Whole1
import Derived.Ground.SlsfProg
import Derived.Ground.SlgnProg
import Derived.Shelf.SlicesE.Clone
import Derived.Test.YbulkehgwProg
namespace Go.Proofs
open Go.Shelf
def Yba.laysSlE041_f5_ren : Go.Shelf.Ren := ⟨fun | 41 => 5 | n => n, fun | 22 => 22 | 23 => 5 | 4 => 4 | n => n, fun | n => n⟩
theorem Yba.laysSlE041_f5 : Go.Proofs.SlLaysE0.n41 Yba.prog Yba.laysSlE041_f5_ren := {
  mixed := by kernel_rfl
  f41 := ⟨Yba.f5.name, by decide, Yba.func5.trans (congrArg some (by kernel_rfl))⟩
  t4 := Yba.underlying4
  a4 := Yba.isAgg4
  z4 := Yba.sizeOf4
  v4 := Yba.zeroValue4
  t22 := Yba.underlying22
  a22 := Yba.isAgg22
  z22 := Yba.sizeOf22
  v22 := Yba.zeroValue22 }
def Yba.laysSlE041_f9_ren : Go.Shelf.Ren := ⟨fun | 41 => 9 | n => n, fun | 22 => 29 | 23 => 23 | 4 => 4 | n => n, fun | n => n⟩
theorem Yba.laysSlE041_f9 : Go.Proofs.SlLaysE0.n41 Yba.prog Yba.laysSlE041_f9_ren := {
  mixed := by kernel_rfl
  f41 := ⟨Yba.f9.name, by decide, Yba.func9.trans (congrArg some (by kernel_rfl))⟩
  t4 := Yba.underlying4
  a4 := Yba.isAgg4
  z4 := Yba.sizeOf4
  v4 := Yba.zeroValue4
  t22 := Yba.underlying29
  a22 := Yba.isAgg29
  z22 := Yba.sizeOf29
  v22 := Yba.zeroValue29 }
def Yba.laysSlE041_f15_ren : Go.Shelf.Ren := ⟨fun | 41 => 15 | n => n, fun | 22 => 24 | 23 => 22 | 4 => 4 | n => n, fun | n => n⟩
theorem Yba.laysSlE041_f15 : Go.Proofs.SlLaysE0.n41 Yba.prog Yba.laysSlE041_f15_ren := {
  mixed := by kernel_rfl
  f41 := ⟨Yba.f15.name, by decide, Yba.func15.trans (congrArg some (by kernel_rfl))⟩
  t4 := Yba.underlying4
  a4 := Yba.isAgg4
  z4 := Yba.sizeOf4
  v4 := Yba.zeroValue4
  t22 := Yba.underlying24
  a22 := Yba.isAgg24
  z22 := Yba.sizeOf24
  v22 := Yba.zeroValue24 }
def Yba.laysSlF6_f6_ren : Go.Shelf.Ren := ⟨fun | 6 => 6 | 15 => 20 | 14 => 19 | 28 => 33 | 29 => 34 | 20 => 25 | 21 => 26 | 22 => 27 | 23 => 28 | 24 => 29 | 25 => 30 | 26 => 31 | 27 => 32 | 46 => 37 | 47 => 38 | 48 => 39 | 49 => 40 | 50 => 41 | 57 => 44 | n => n, fun | 22 => 24 | 24 => 22 | 25 => 27 | 3 => 3 | 39 => 52 | 0 => 0 | 53 => 23 | 55 => 28 | 4 => 4 | 46 => 60 | 45 => 59 | 50 => 64 | 5 => 5 | 9 => 9 | 66 => 70 | 70 => 74 | 76 => 78 | 77 => 79 | n => n, fun | n => n⟩
theorem Yba.laysSlF6_f6 : Go.Proofs.SlLaysF.n6 Yba.prog Yba.laysSlF6_f6_ren := {
  mixed := by kernel_rfl
  f6 := ⟨Yba.f6.name, by decide, Yba.func6.trans (congrArg some (by kernel_rfl))⟩
  f14 := ⟨Yba.f19.name, by decide, Yba.func19.trans (congrArg some (by kernel_rfl))⟩
  f15 := Yba.func20.trans (congrArg some (by kernel_rfl))
  f20 := ⟨Yba.f25.name, by decide, Yba.func25.trans (congrArg some (by kernel_rfl))⟩
  f21 := ⟨Yba.f26.name, by decide, Yba.func26.trans (congrArg some (by kernel_rfl))⟩
  f22 := ⟨Yba.f27.name, by decide, Yba.func27.trans (congrArg some (by kernel_rfl))⟩
  f23 := ⟨Yba.f28.name, by decide, Yba.func28.trans (congrArg some (by kernel_rfl))⟩
  f24 := ⟨Yba.f29.name, by decide, Yba.func29.trans (congrArg some (by kernel_rfl))⟩
  f25 := ⟨Yba.f30.name, by decide, Yba.func30.trans (congrArg some (by kernel_rfl))⟩
  f26 := ⟨Yba.f31.name, by decide, Yba.func31.trans (congrArg some (by kernel_rfl))⟩
  f27 := ⟨Yba.f32.name, by decide, Yba.func32.trans (congrArg some (by kernel_rfl))⟩
  f28 := Yba.func33.trans (congrArg some (by kernel_rfl))
  f29 := Yba.func34.trans (congrArg some (by kernel_rfl))
  f46 := ⟨Yba.f37.name, by decide, Yba.func37.trans (congrArg some (by kernel_rfl))⟩
  f47 := Yba.func38.trans (congrArg some (by kernel_rfl))
  f48 := Yba.func39.trans (congrArg some (by kernel_rfl))
  f49 := ⟨Yba.f40.name, by decide, Yba.func40.trans (congrArg some (by kernel_rfl))⟩
  f50 := ⟨Yba.f41.name, by decide, Yba.func41.trans (congrArg some (by kernel_rfl))⟩
  f57 := ⟨Yba.f44.name, by decide, Yba.func44.trans (congrArg some (by kernel_rfl))⟩
  t0 := Yba.underlying0
  a0 := Yba.isAgg0
  z0 := Yba.sizeOf0
  v0 := Yba.zeroValue0
  t3 := Yba.underlying3
  a3 := Yba.isAgg3
  z3 := Yba.sizeOf3
  v3 := Yba.zeroValue3
  t4 := Yba.underlying4
  a4 := Yba.isAgg4
  z4 := Yba.sizeOf4
  v4 := Yba.zeroValue4
  t5 := Yba.underlying5
  a5 := Yba.isAgg5
  z5 := Yba.sizeOf5
  v5 := Yba.zeroValue5
  t9 := Yba.underlying9
  a9 := Yba.isAgg9
  z9 := Yba.sizeOf9
  v9 := Yba.zeroValue9
  t22 := Yba.underlying24
  a22 := Yba.isAgg24
  z22 := Yba.sizeOf24
  v22 := Yba.zeroValue24
  a24 := Yba.isAgg22
  z24 := Yba.sizeOf22
  t25 := Yba.underlying27
  a25 := Yba.isAgg27
  z25 := Yba.sizeOf27
  v25 := Yba.zeroValue27
  t39 := Yba.underlying52
  a39 := Yba.isAgg52
  z39 := Yba.sizeOf52
  v39 := Yba.zeroValue52
  t45 := Yba.underlying59
  a45 := Yba.isAgg59
  z45 := Yba.sizeOf59
  v45 := Yba.zeroValue59
  t46 := Yba.underlying60
  a46 := Yba.isAgg60
  z46 := Yba.sizeOf60
  v46 := Yba.zeroValue60
  t50 := Yba.underlying64
  a50 := Yba.isAgg64
  z50 := Yba.sizeOf64
  v50 := Yba.zeroValue64
  t53 := Yba.underlying23
  a53 := Yba.isAgg23
  z53 := Yba.sizeOf23
  v53 := Yba.zeroValue23
  t55 := Yba.underlying28
  a55 := Yba.isAgg28
  z55 := Yba.sizeOf28
  v55 := Yba.zeroValue28
  t66 := Yba.underlying70
  a66 := Yba.isAgg70
  z66 := Yba.sizeOf70
  v66 := Yba.zeroValue70
  t70 := Yba.underlying74
  a70 := Yba.isAgg74
  z70 := Yba.sizeOf74
  v70 := Yba.zeroValue74
  t76 := Yba.underlying78
  a76 := Yba.isAgg78
  z76 := Yba.sizeOf78
  v76 := Yba.zeroValue78
  t77 := Yba.underlying79
  a77 := Yba.isAgg79
  z77 := Yba.sizeOf79
  v77 := Yba.zeroValue79 }
end Go.Proofs
