/-
  DERIVED: THE SHELF's CONTRACTS AT THIS DUMP, IN PLAIN WORDS (tools/lay-plain.mjs out of 'YbulkehxoCShelf.lean', which tools/lay-shelf.mjs wrote): THE SAME DECLARATIONS UNDER THE SAME NAMES: 'import', 'namespace', 'open', 'def', 'theorem' AND NOTHING ELSE: no command of the shelf's: FOR A HAND-IN. Each laying: the table of numbers ('.._ren') and one theorem, a field a fact of the dump's own or the kernel's comparison; each contract: ONE APPLICATION.
-/
import Derived.Shelf.SlGeneric
import Derived.Shelf.SortM.Plain
import Derived.Shelf.SortM.SortNone
import Derived.Shelf.SlicesE.DeleteFunc
import Derived.Ground.SlgmProg
import Derived.Ground.SlgfProg
import Derived.Test.YbulkehxoProg
namespace Go.Proofs
open Go.Shelf
def Yba.sortC_ren : Go.Shelf.Ren := ⟨fun | 5 => 11 | 8 => 19 | 7 => 18 | 19 => 37 | 20 => 38 | 10 => 28 | 11 => 29 | 12 => 30 | 13 => 31 | 14 => 32 | 15 => 33 | 16 => 34 | 17 => 35 | 18 => 36 | 30 => 43 | 31 => 44 | 32 => 45 | 33 => 46 | 34 => 47 | 35 => 48 | 40 => 50 | n => n, fun | 23 => 51 | 25 => 3 | 3 => 3 | 32 => 52 | 22 => 51 | 0 => 0 | 44 => 116 | 46 => 23 | 4 => 4 | 36 => 108 | 35 => 107 | 41 => 113 | 5 => 5 | 9 => 9 | 53 => 122 | 57 => 126 | 63 => 129 | 64 => 130 | n => n, fun | n => n⟩
theorem Yba.sortC : Go.Proofs.SlLaysM.n5 Yba.prog Yba.sortC_ren := {
  mixed := by kernel_rfl
  f5 := ⟨Yba.f11.name, by decide, Yba.func11.trans (congrArg some (by kernel_rfl))⟩
  f7 := ⟨Yba.f18.name, by decide, Yba.func18.trans (congrArg some (by kernel_rfl))⟩
  f8 := Yba.func19.trans (congrArg some (by kernel_rfl))
  f10 := ⟨Yba.f28.name, by decide, Yba.func28.trans (congrArg some (by kernel_rfl))⟩
  f11 := ⟨Yba.f29.name, by decide, Yba.func29.trans (congrArg some (by kernel_rfl))⟩
  f12 := ⟨Yba.f30.name, by decide, Yba.func30.trans (congrArg some (by kernel_rfl))⟩
  f13 := ⟨Yba.f31.name, by decide, Yba.func31.trans (congrArg some (by kernel_rfl))⟩
  f14 := ⟨Yba.f32.name, by decide, Yba.func32.trans (congrArg some (by kernel_rfl))⟩
  f15 := ⟨Yba.f33.name, by decide, Yba.func33.trans (congrArg some (by kernel_rfl))⟩
  f16 := ⟨Yba.f34.name, by decide, Yba.func34.trans (congrArg some (by kernel_rfl))⟩
  f17 := ⟨Yba.f35.name, by decide, Yba.func35.trans (congrArg some (by kernel_rfl))⟩
  f18 := ⟨Yba.f36.name, by decide, Yba.func36.trans (congrArg some (by kernel_rfl))⟩
  f19 := Yba.func37.trans (congrArg some (by kernel_rfl))
  f20 := Yba.func38.trans (congrArg some (by kernel_rfl))
  f30 := ⟨Yba.f43.name, by decide, Yba.func43.trans (congrArg some (by kernel_rfl))⟩
  f31 := Yba.func44.trans (congrArg some (by kernel_rfl))
  f32 := Yba.func45.trans (congrArg some (by kernel_rfl))
  f33 := ⟨Yba.f46.name, by decide, Yba.func46.trans (congrArg some (by kernel_rfl))⟩
  f34 := ⟨Yba.f47.name, by decide, Yba.func47.trans (congrArg some (by kernel_rfl))⟩
  f35 := ⟨Yba.f48.name, by decide, Yba.func48.trans (congrArg some (by kernel_rfl))⟩
  f40 := ⟨Yba.f50.name, by decide, Yba.func50.trans (congrArg some (by kernel_rfl))⟩
  t0 := Yba.underlying0
  a0 := Yba.isAgg0
  z0 := Yba.sizeOf0
  v0 := Yba.zeroValue0
  t3 := Yba.underlying3
  a3 := Yba.isAgg3
  z3 := Yba.sizeOf3
  v3 := Yba.zeroValue3
  t4 := Yba.underlying4
  a4 := Yba.isAgg4
  z4 := Yba.sizeOf4
  v4 := Yba.zeroValue4
  t5 := Yba.underlying5
  a5 := Yba.isAgg5
  z5 := Yba.sizeOf5
  v5 := Yba.zeroValue5
  t9 := Yba.underlying9
  a9 := Yba.isAgg9
  z9 := Yba.sizeOf9
  v9 := Yba.zeroValue9
  t22 := Yba.underlying51
  a22 := Yba.isAgg51
  z22 := Yba.sizeOf51
  v22 := Yba.zeroValue51
  t23 := Yba.underlying51
  a23 := Yba.isAgg51
  z23 := Yba.sizeOf51
  v23 := Yba.zeroValue51
  t25 := Yba.underlying3
  a25 := Yba.isAgg3
  z25 := Yba.sizeOf3
  v25 := Yba.zeroValue3
  t32 := Yba.underlying52
  a32 := Yba.isAgg52
  z32 := Yba.sizeOf52
  v32 := Yba.zeroValue52
  t35 := Yba.underlying107
  a35 := Yba.isAgg107
  z35 := Yba.sizeOf107
  v35 := Yba.zeroValue107
  t36 := Yba.underlying108
  a36 := Yba.isAgg108
  z36 := Yba.sizeOf108
  v36 := Yba.zeroValue108
  t41 := Yba.underlying113
  a41 := Yba.isAgg113
  z41 := Yba.sizeOf113
  v41 := Yba.zeroValue113
  t44 := Yba.underlying116
  a44 := Yba.isAgg116
  z44 := Yba.sizeOf116
  v44 := Yba.zeroValue116
  t46 := Yba.underlying23
  a46 := Yba.isAgg23
  z46 := Yba.sizeOf23
  v46 := Yba.zeroValue23
  t53 := Yba.underlying122
  a53 := Yba.isAgg122
  z53 := Yba.sizeOf122
  v53 := Yba.zeroValue122
  t57 := Yba.underlying126
  a57 := Yba.isAgg126
  z57 := Yba.sizeOf126
  v57 := Yba.zeroValue126
  t63 := Yba.underlying129
  a63 := Yba.isAgg129
  z63 := Yba.sizeOf129
  v63 := Yba.zeroValue129
  t64 := Yba.underlying130
  a64 := Yba.isAgg130
  z64 := Yba.sizeOf130
  v64 := Yba.zeroValue130 }
def Yba.delC_ren : Go.Shelf.Ren := ⟨fun | 10 => 20 | 6 => 39 | n => n, fun | 22 => 56 | 23 => 57 | 25 => 99 | 3 => 3 | 4 => 4 | 0 => 0 | n => n, fun | n => n⟩
theorem Yba.delC : Go.Proofs.SlLaysH.n10 Yba.prog Yba.delC_ren := {
  mixed := by kernel_rfl
  f6 := ⟨Yba.f39.name, by decide, Yba.func39.trans (congrArg some (by kernel_rfl))⟩
  f10 := ⟨Yba.f20.name, by decide, Yba.func20.trans (congrArg some (by kernel_rfl))⟩
  t0 := Yba.underlying0
  a0 := Yba.isAgg0
  z0 := Yba.sizeOf0
  v0 := Yba.zeroValue0
  t3 := Yba.underlying3
  a3 := Yba.isAgg3
  z3 := Yba.sizeOf3
  v3 := Yba.zeroValue3
  t4 := Yba.underlying4
  a4 := Yba.isAgg4
  z4 := Yba.sizeOf4
  v4 := Yba.zeroValue4
  t22 := Yba.underlying56
  a22 := Yba.isAgg56
  z22 := Yba.sizeOf56
  v22 := Yba.zeroValue56
  a23 := Yba.isAgg57
  z23 := Yba.sizeOf57
  t25 := Yba.underlying99
  a25 := Yba.isAgg99
  z25 := Yba.sizeOf99
  v25 := Yba.zeroValue99 }
end Go.Proofs
