/-
  DERIVED: THE SHELF's CONTRACTS AT THIS DUMP, IN PLAIN WORDS (tools/lay-plain.mjs out of 'YbaLay.lean', which tools/lay-shelf.mjs wrote): THE SAME DECLARATIONS UNDER THE SAME NAMES: 'import', 'namespace', 'open', 'def', 'theorem' AND NOTHING ELSE: no command of the shelf's: FOR A HAND-IN. Each laying: the table of numbers ('.._ren') and one theorem, a field a fact of the dump's own or the kernel's comparison; each contract: ONE APPLICATION.
-/
import Derived.Shelf.SlicesG.CompactI
import Derived.Shelf.SlicesE.Clone
import Derived.Ground.SlgnProg
import Derived.Shelf.SortM.Plain
import Derived.Shelf.SortM.SortNone
import Derived.Test.YbulkdsaoProg
namespace Go.Proofs
open Go.Shelf
set_option maxRecDepth 100000
def Yba.laysSort_ren : Go.Shelf.Ren := ⟨fun | 5 => 4 | 8 => 15 | 7 => 14 | 19 => 38 | 20 => 39 | 10 => 29 | 11 => 30 | 12 => 31 | 13 => 32 | 14 => 33 | 15 => 34 | 16 => 35 | 17 => 36 | 18 => 37 | 30 => 48 | 31 => 49 | 32 => 50 | 33 => 51 | 34 => 52 | 35 => 53 | 40 => 58 | n => n, fun | 23 => 24 | 25 => 2 | 3 => 3 | 32 => 105 | 22 => 24 | 0 => 0 | 44 => 65 | 46 => 42 | 4 => 4 | 36 => 121 | 35 => 120 | 41 => 126 | 5 => 5 | 9 => 9 | 53 => 138 | 57 => 142 | 63 => 147 | 64 => 148 | n => n, fun | n => n⟩
theorem Yba.laysSort : Go.Proofs.SlLaysM.n5 Yba.prog Yba.laysSort_ren := {
  mixed := by kernel_rfl
  f5 := ⟨Yba.f4.name, by decide, Yba.func4.trans (congrArg some (by kernel_rfl))⟩
  f7 := ⟨Yba.f14.name, by decide, Yba.func14.trans (congrArg some (by kernel_rfl))⟩
  f8 := Yba.func15.trans (congrArg some (by kernel_rfl))
  f10 := ⟨Yba.f29.name, by decide, Yba.func29.trans (congrArg some (by kernel_rfl))⟩
  f11 := ⟨Yba.f30.name, by decide, Yba.func30.trans (congrArg some (by kernel_rfl))⟩
  f12 := ⟨Yba.f31.name, by decide, Yba.func31.trans (congrArg some (by kernel_rfl))⟩
  f13 := ⟨Yba.f32.name, by decide, Yba.func32.trans (congrArg some (by kernel_rfl))⟩
  f14 := ⟨Yba.f33.name, by decide, Yba.func33.trans (congrArg some (by kernel_rfl))⟩
  f15 := ⟨Yba.f34.name, by decide, Yba.func34.trans (congrArg some (by kernel_rfl))⟩
  f16 := ⟨Yba.f35.name, by decide, Yba.func35.trans (congrArg some (by kernel_rfl))⟩
  f17 := ⟨Yba.f36.name, by decide, Yba.func36.trans (congrArg some (by kernel_rfl))⟩
  f18 := ⟨Yba.f37.name, by decide, Yba.func37.trans (congrArg some (by kernel_rfl))⟩
  f19 := Yba.func38.trans (congrArg some (by kernel_rfl))
  f20 := Yba.func39.trans (congrArg some (by kernel_rfl))
  f30 := ⟨Yba.f48.name, by decide, Yba.func48.trans (congrArg some (by kernel_rfl))⟩
  f31 := Yba.func49.trans (congrArg some (by kernel_rfl))
  f32 := Yba.func50.trans (congrArg some (by kernel_rfl))
  f33 := ⟨Yba.f51.name, by decide, Yba.func51.trans (congrArg some (by kernel_rfl))⟩
  f34 := ⟨Yba.f52.name, by decide, Yba.func52.trans (congrArg some (by kernel_rfl))⟩
  f35 := ⟨Yba.f53.name, by decide, Yba.func53.trans (congrArg some (by kernel_rfl))⟩
  f40 := ⟨Yba.f58.name, by decide, Yba.func58.trans (congrArg some (by kernel_rfl))⟩
  t0 := Yba.underlying0
  a0 := Yba.isAgg0
  z0 := Yba.sizeOf0
  v0 := Yba.zeroValue0
  t3 := Yba.underlying3
  a3 := Yba.isAgg3
  z3 := Yba.sizeOf3
  v3 := Yba.zeroValue3
  t4 := Yba.underlying4
  a4 := Yba.isAgg4
  z4 := Yba.sizeOf4
  v4 := Yba.zeroValue4
  t5 := Yba.underlying5
  a5 := Yba.isAgg5
  z5 := Yba.sizeOf5
  v5 := Yba.zeroValue5
  t9 := Yba.underlying9
  a9 := Yba.isAgg9
  z9 := Yba.sizeOf9
  v9 := Yba.zeroValue9
  t22 := Yba.underlying24
  a22 := Yba.isAgg24
  z22 := Yba.sizeOf24
  v22 := Yba.zeroValue24
  t23 := Yba.underlying24
  a23 := Yba.isAgg24
  z23 := Yba.sizeOf24
  v23 := Yba.zeroValue24
  t25 := Yba.underlying2
  a25 := Yba.isAgg2
  z25 := Yba.sizeOf2
  v25 := Yba.zeroValue2
  t32 := Yba.underlying105
  a32 := Yba.isAgg105
  z32 := Yba.sizeOf105
  v32 := Yba.zeroValue105
  t35 := Yba.underlying120
  a35 := Yba.isAgg120
  z35 := Yba.sizeOf120
  v35 := Yba.zeroValue120
  t36 := Yba.underlying121
  a36 := Yba.isAgg121
  z36 := Yba.sizeOf121
  v36 := Yba.zeroValue121
  t41 := Yba.underlying126
  a41 := Yba.isAgg126
  z41 := Yba.sizeOf126
  v41 := Yba.zeroValue126
  t44 := Yba.underlying65
  a44 := Yba.isAgg65
  z44 := Yba.sizeOf65
  v44 := Yba.zeroValue65
  t46 := Yba.underlying42
  a46 := Yba.isAgg42
  z46 := Yba.sizeOf42
  v46 := Yba.zeroValue42
  t53 := Yba.underlying138
  a53 := Yba.isAgg138
  z53 := Yba.sizeOf138
  v53 := Yba.zeroValue138
  t57 := Yba.underlying142
  a57 := Yba.isAgg142
  z57 := Yba.sizeOf142
  v57 := Yba.zeroValue142
  t63 := Yba.underlying147
  a63 := Yba.isAgg147
  z63 := Yba.sizeOf147
  v63 := Yba.zeroValue147
  t64 := Yba.underlying148
  a64 := Yba.isAgg148
  z64 := Yba.sizeOf148
  v64 := Yba.zeroValue148 }
def Yba.laysCompact_ren : Go.Shelf.Ren := ⟨fun | 43 => 5 | n => n, fun | 22 => 24 | 23 => 2 | 3 => 3 | 4 => 4 | 0 => 0 | n => n, fun | n => n⟩
theorem Yba.laysCompact : Go.Proofs.SlLaysN.n43 Yba.prog Yba.laysCompact_ren := {
  mixed := by kernel_rfl
  f43 := ⟨Yba.f5.name, by decide, Yba.func5.trans (congrArg some (by kernel_rfl))⟩
  t0 := Yba.underlying0
  a0 := Yba.isAgg0
  z0 := Yba.sizeOf0
  v0 := Yba.zeroValue0
  t3 := Yba.underlying3
  a3 := Yba.isAgg3
  z3 := Yba.sizeOf3
  v3 := Yba.zeroValue3
  t4 := Yba.underlying4
  a4 := Yba.isAgg4
  z4 := Yba.sizeOf4
  v4 := Yba.zeroValue4
  t22 := Yba.underlying24
  a22 := Yba.isAgg24
  z22 := Yba.sizeOf24
  v22 := Yba.zeroValue24
  t23 := Yba.underlying2
  a23 := Yba.isAgg2
  z23 := Yba.sizeOf2
  v23 := Yba.zeroValue2
  i23 := by kernel_rfl }
def Yba.laysClone6_ren : Go.Shelf.Ren := ⟨fun | 41 => 6 | n => n, fun | 22 => 27 | 23 => 29 | 4 => 4 | n => n, fun | n => n⟩
theorem Yba.laysClone6 : Go.Proofs.SlLaysE0.n41 Yba.prog Yba.laysClone6_ren := {
  mixed := by kernel_rfl
  f41 := ⟨Yba.f6.name, by decide, Yba.func6.trans (congrArg some (by kernel_rfl))⟩
  t4 := Yba.underlying4
  a4 := Yba.isAgg4
  z4 := Yba.sizeOf4
  v4 := Yba.zeroValue4
  t22 := Yba.underlying27
  a22 := Yba.isAgg27
  z22 := Yba.sizeOf27
  v22 := Yba.zeroValue27 }
def Yba.laysClone8_ren : Go.Shelf.Ren := ⟨fun | 41 => 8 | n => n, fun | 22 => 36 | 23 => 41 | 4 => 4 | n => n, fun | n => n⟩
theorem Yba.laysClone8 : Go.Proofs.SlLaysE0.n41 Yba.prog Yba.laysClone8_ren := {
  mixed := by kernel_rfl
  f41 := ⟨Yba.f8.name, by decide, Yba.func8.trans (congrArg some (by kernel_rfl))⟩
  t4 := Yba.underlying4
  a4 := Yba.isAgg4
  z4 := Yba.sizeOf4
  v4 := Yba.zeroValue4
  t22 := Yba.underlying36
  a22 := Yba.isAgg36
  z22 := Yba.sizeOf36
  v22 := Yba.zeroValue36 }
end Go.Proofs
