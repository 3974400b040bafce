/-
  DERIVED: THE SHELF's CONTRACTS AT THIS DUMP, IN PLAIN WORDS (tools/lay-plain.mjs out of 'YbulkeiagShelf.lean', which tools/lay-shelf.mjs wrote): THE SAME DECLARATIONS UNDER THE SAME NAMES: 'import', 'namespace', 'open', 'def', 'theorem' AND NOTHING ELSE: no command of the shelf's: FOR A HAND-IN. Each laying: the table of numbers ('.._ren') and one theorem, a field a fact of the dump's own or the kernel's comparison; each contract: ONE APPLICATION.
-/
import Derived.Shelf.SlGeneric
import Derived.Shelf.SlIterI.Nil
import Derived.Shelf.SortM.Plain
import Derived.Shelf.SortM.SortNone
import Derived.Ground.GgzProg
import Derived.Ground.SlgmProg
import Derived.Test.YbulkeiagProg
namespace Go.Proofs
open Go.Shelf
def Yba.keysA_ren : Go.Shelf.Ren := ⟨fun | 7 => 8 | 10 => 12 | n => n, fun | 23 => 23 | 26 => 2 | 3 => 4 | 28 => 44 | 0 => 0 | 27 => 43 | 33 => 48 | 4 => 4 | n => n, fun | n => n⟩
theorem Yba.keysA : Go.Proofs.SlLaysZI.n7 Yba.prog Yba.keysA_ren := {
  mixed := by kernel_rfl
  f7 := ⟨Yba.f8.name, by decide, Yba.func8.trans (congrArg some (by kernel_rfl))⟩
  f10 := ⟨Yba.f12.name, by decide, Yba.func12.trans (congrArg some (by kernel_rfl))⟩
  t0 := Yba.underlying0
  a0 := Yba.isAgg0
  z0 := Yba.sizeOf0
  v0 := Yba.zeroValue0
  t4 := Yba.underlying4
  a4 := Yba.isAgg4
  z4 := Yba.sizeOf4
  v4 := Yba.zeroValue4
  t23 := Yba.underlying23
  a23 := Yba.isAgg23
  z23 := Yba.sizeOf23
  v23 := Yba.zeroValue23
  t26 := Yba.underlying2
  a26 := Yba.isAgg2
  z26 := Yba.sizeOf2
  v26 := Yba.zeroValue2
  t27 := Yba.underlying43
  a27 := Yba.isAgg43
  z27 := Yba.sizeOf43
  v27 := Yba.zeroValue43
  t28 := Yba.underlying44
  a28 := Yba.isAgg44
  z28 := Yba.sizeOf44
  v28 := Yba.zeroValue44
  t33 := Yba.underlying48
  a33 := Yba.isAgg48
  z33 := Yba.sizeOf48
  v33 := Yba.zeroValue48 }
def Yba.sortedA_ren : Go.Shelf.Ren := ⟨fun | 6 => 7 | 8 => 10 | 9 => 11 | 11 => 14 | 13 => 16 | 12 => 15 | 23 => 26 | 24 => 27 | 14 => 17 | 15 => 18 | 16 => 19 | 17 => 20 | 18 => 21 | 19 => 22 | 20 => 23 | 21 => 24 | 22 => 25 | 25 => 28 | 26 => 29 | 27 => 30 | 28 => 31 | 29 => 32 | 30 => 33 | 31 => 34 | n => n, fun | 26 => 2 | 28 => 44 | 24 => 41 | 0 => 0 | 3 => 3 | 37 => 53 | 48 => 64 | 50 => 35 | 4 => 4 | 40 => 56 | 39 => 55 | 45 => 61 | 5 => 5 | 9 => 9 | 51 => 66 | 55 => 70 | 57 => 72 | 58 => 73 | 33 => 48 | n => n, fun | n => n⟩
theorem Yba.sortedA : Go.Proofs.SlLaysZI.n6 Yba.prog Yba.sortedA_ren := {
  mixed := by kernel_rfl
  f6 := ⟨Yba.f7.name, by decide, Yba.func7.trans (congrArg some (by kernel_rfl))⟩
  f8 := ⟨Yba.f10.name, by decide, Yba.func10.trans (congrArg some (by kernel_rfl))⟩
  f11 := ⟨Yba.f14.name, by decide, Yba.func14.trans (congrArg some (by kernel_rfl))⟩
  t0 := Yba.underlying0
  a0 := Yba.isAgg0
  z0 := Yba.sizeOf0
  v0 := Yba.zeroValue0
  t24 := Yba.underlying41
  a24 := Yba.isAgg41
  z24 := Yba.sizeOf41
  v24 := Yba.zeroValue41
  t26 := Yba.underlying2
  a26 := Yba.isAgg2
  z26 := Yba.sizeOf2
  v26 := Yba.zeroValue2
  t28 := Yba.underlying44
  a28 := Yba.isAgg44
  z28 := Yba.sizeOf44
  v28 := Yba.zeroValue44
  i26 := by kernel_rfl }
def Yba.sortA_ren : Go.Shelf.Ren := ⟨fun | 5 => 11 | 8 => 16 | 7 => 15 | 19 => 26 | 20 => 27 | 10 => 17 | 11 => 18 | 12 => 19 | 13 => 20 | 14 => 21 | 15 => 22 | 16 => 23 | 17 => 24 | 18 => 25 | 30 => 28 | 31 => 29 | 32 => 30 | 33 => 31 | 34 => 32 | 35 => 33 | 40 => 34 | n => n, fun | 23 => 41 | 25 => 2 | 3 => 3 | 32 => 53 | 22 => 41 | 0 => 0 | 44 => 64 | 46 => 35 | 4 => 4 | 36 => 56 | 35 => 55 | 41 => 61 | 5 => 5 | 9 => 9 | 53 => 66 | 57 => 70 | 63 => 72 | 64 => 73 | n => n, fun | n => n⟩
theorem Yba.sortA : Go.Proofs.SlLaysM.n5 Yba.prog Yba.sortA_ren := {
  mixed := by kernel_rfl
  f5 := ⟨Yba.f11.name, by decide, Yba.func11.trans (congrArg some (by kernel_rfl))⟩
  f7 := ⟨Yba.f15.name, by decide, Yba.func15.trans (congrArg some (by kernel_rfl))⟩
  f8 := Yba.func16.trans (congrArg some (by kernel_rfl))
  f10 := ⟨Yba.f17.name, by decide, Yba.func17.trans (congrArg some (by kernel_rfl))⟩
  f11 := ⟨Yba.f18.name, by decide, Yba.func18.trans (congrArg some (by kernel_rfl))⟩
  f12 := ⟨Yba.f19.name, by decide, Yba.func19.trans (congrArg some (by kernel_rfl))⟩
  f13 := ⟨Yba.f20.name, by decide, Yba.func20.trans (congrArg some (by kernel_rfl))⟩
  f14 := ⟨Yba.f21.name, by decide, Yba.func21.trans (congrArg some (by kernel_rfl))⟩
  f15 := ⟨Yba.f22.name, by decide, Yba.func22.trans (congrArg some (by kernel_rfl))⟩
  f16 := ⟨Yba.f23.name, by decide, Yba.func23.trans (congrArg some (by kernel_rfl))⟩
  f17 := ⟨Yba.f24.name, by decide, Yba.func24.trans (congrArg some (by kernel_rfl))⟩
  f18 := ⟨Yba.f25.name, by decide, Yba.func25.trans (congrArg some (by kernel_rfl))⟩
  f19 := Yba.func26.trans (congrArg some (by kernel_rfl))
  f20 := Yba.func27.trans (congrArg some (by kernel_rfl))
  f30 := ⟨Yba.f28.name, by decide, Yba.func28.trans (congrArg some (by kernel_rfl))⟩
  f31 := Yba.func29.trans (congrArg some (by kernel_rfl))
  f32 := Yba.func30.trans (congrArg some (by kernel_rfl))
  f33 := ⟨Yba.f31.name, by decide, Yba.func31.trans (congrArg some (by kernel_rfl))⟩
  f34 := ⟨Yba.f32.name, by decide, Yba.func32.trans (congrArg some (by kernel_rfl))⟩
  f35 := ⟨Yba.f33.name, by decide, Yba.func33.trans (congrArg some (by kernel_rfl))⟩
  f40 := ⟨Yba.f34.name, by decide, Yba.func34.trans (congrArg some (by kernel_rfl))⟩
  t0 := Yba.underlying0
  a0 := Yba.isAgg0
  z0 := Yba.sizeOf0
  v0 := Yba.zeroValue0
  t3 := Yba.underlying3
  a3 := Yba.isAgg3
  z3 := Yba.sizeOf3
  v3 := Yba.zeroValue3
  t4 := Yba.underlying4
  a4 := Yba.isAgg4
  z4 := Yba.sizeOf4
  v4 := Yba.zeroValue4
  t5 := Yba.underlying5
  a5 := Yba.isAgg5
  z5 := Yba.sizeOf5
  v5 := Yba.zeroValue5
  t9 := Yba.underlying9
  a9 := Yba.isAgg9
  z9 := Yba.sizeOf9
  v9 := Yba.zeroValue9
  t22 := Yba.underlying41
  a22 := Yba.isAgg41
  z22 := Yba.sizeOf41
  v22 := Yba.zeroValue41
  t23 := Yba.underlying41
  a23 := Yba.isAgg41
  z23 := Yba.sizeOf41
  v23 := Yba.zeroValue41
  t25 := Yba.underlying2
  a25 := Yba.isAgg2
  z25 := Yba.sizeOf2
  v25 := Yba.zeroValue2
  t32 := Yba.underlying53
  a32 := Yba.isAgg53
  z32 := Yba.sizeOf53
  v32 := Yba.zeroValue53
  t35 := Yba.underlying55
  a35 := Yba.isAgg55
  z35 := Yba.sizeOf55
  v35 := Yba.zeroValue55
  t36 := Yba.underlying56
  a36 := Yba.isAgg56
  z36 := Yba.sizeOf56
  v36 := Yba.zeroValue56
  t41 := Yba.underlying61
  a41 := Yba.isAgg61
  z41 := Yba.sizeOf61
  v41 := Yba.zeroValue61
  t44 := Yba.underlying64
  a44 := Yba.isAgg64
  z44 := Yba.sizeOf64
  v44 := Yba.zeroValue64
  t46 := Yba.underlying35
  a46 := Yba.isAgg35
  z46 := Yba.sizeOf35
  v46 := Yba.zeroValue35
  t53 := Yba.underlying66
  a53 := Yba.isAgg66
  z53 := Yba.sizeOf66
  v53 := Yba.zeroValue66
  t57 := Yba.underlying70
  a57 := Yba.isAgg70
  z57 := Yba.sizeOf70
  v57 := Yba.zeroValue70
  t63 := Yba.underlying72
  a63 := Yba.isAgg72
  z63 := Yba.sizeOf72
  v63 := Yba.zeroValue72
  t64 := Yba.underlying73
  a64 := Yba.isAgg73
  z64 := Yba.sizeOf73
  v64 := Yba.zeroValue73 }
end Go.Proofs
