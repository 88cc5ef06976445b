/- The contracts of slices.DeleteFunc, ContainsFunc, Contains and IsSorted of strings at this program, laid in plain words by the kit (lay-plain.mjs). -/
import Derived.Shelf.SlGeneric
import Derived.Ground.SlgnProg
import Derived.Ground.SlgfProg
import Derived.Shelf.SlicesE.DeleteFunc
import Derived.Shelf.SlicesE.Index
import Derived.Shelf.SlicesE.IndexFunc
import Derived.Ground.SlsoProg
import Derived.Shelf.SlSorted.IsSorted
import Derived.Test.YtceildcbehaoaaaProg
namespace Go.Proofs
set_option linter.unusedVariables false
set_option linter.unusedSimpArgs false
open Go.Shelf
def Try.laysDf_ren : Go.Shelf.Ren := ⟨fun | 10 => 23 | 6 => 58 | n => n, fun | 22 => 23 | 23 => 9 | 25 => 36 | 3 => 3 | 4 => 4 | 0 => 0 | n => n, fun | n => n⟩
theorem Try.laysDf : Go.Proofs.SlLaysH.n10 Try.prog Try.laysDf_ren := {
  mixed := by kernel_rfl
  f6 := ⟨Try.f58.name, by decide, Try.func58.trans (congrArg some (by kernel_rfl))⟩
  f10 := ⟨Try.f23.name, by decide, Try.func23.trans (congrArg some (by kernel_rfl))⟩
  t0 := Try.underlying0
  a0 := Try.isAgg0
  z0 := Try.sizeOf0
  v0 := Try.zeroValue0
  t3 := Try.underlying3
  a3 := Try.isAgg3
  z3 := Try.sizeOf3
  v3 := Try.zeroValue3
  t4 := Try.underlying4
  a4 := Try.isAgg4
  z4 := Try.sizeOf4
  v4 := Try.zeroValue4
  t22 := Try.underlying23
  a22 := Try.isAgg23
  z22 := Try.sizeOf23
  v22 := Try.zeroValue23
  a23 := Try.isAgg9
  z23 := Try.sizeOf9
  t25 := Try.underlying36
  a25 := Try.isAgg36
  z25 := Try.sizeOf36
  v25 := Try.zeroValue36 }
def Try.laysCf_ren : Go.Shelf.Ren := ⟨fun | 8 => 25 | 6 => 58 | n => n, fun | 22 => 23 | 23 => 9 | 25 => 36 | 4 => 4 | 3 => 3 | 0 => 0 | n => n, fun | n => n⟩
theorem Try.laysCf : Go.Proofs.SlLaysH.n8 Try.prog Try.laysCf_ren := {
  mixed := by kernel_rfl
  f6 := ⟨Try.f58.name, by decide, Try.func58.trans (congrArg some (by kernel_rfl))⟩
  f8 := ⟨Try.f25.name, by decide, Try.func25.trans (congrArg some (by kernel_rfl))⟩
  t0 := Try.underlying0
  a0 := Try.isAgg0
  z0 := Try.sizeOf0
  v0 := Try.zeroValue0
  t3 := Try.underlying3
  a3 := Try.isAgg3
  z3 := Try.sizeOf3
  v3 := Try.zeroValue3
  t4 := Try.underlying4
  a4 := Try.isAgg4
  z4 := Try.sizeOf4
  v4 := Try.zeroValue4
  t22 := Try.underlying23
  a22 := Try.isAgg23
  z22 := Try.sizeOf23
  v22 := Try.zeroValue23
  a23 := Try.isAgg9
  z23 := Try.sizeOf9
  t25 := Try.underlying36
  a25 := Try.isAgg36
  z25 := Try.sizeOf36
  v25 := Try.zeroValue36 }
def Try.laysCo_ren : Go.Shelf.Ren := ⟨fun | 31 => 35 | 29 => 61 | n => n, fun | 22 => 23 | 23 => 9 | 4 => 4 | 3 => 3 | 0 => 0 | n => n, fun | n => n⟩
theorem Try.laysCo : Go.Proofs.SlLaysE.n31 Try.prog Try.laysCo_ren := {
  mixed := by kernel_rfl
  f29 := ⟨Try.f61.name, by decide, Try.func61.trans (congrArg some (by kernel_rfl))⟩
  f31 := ⟨Try.f35.name, by decide, Try.func35.trans (congrArg some (by kernel_rfl))⟩
  t0 := Try.underlying0
  a0 := Try.isAgg0
  z0 := Try.sizeOf0
  v0 := Try.zeroValue0
  t3 := Try.underlying3
  a3 := Try.isAgg3
  z3 := Try.sizeOf3
  v3 := Try.zeroValue3
  t4 := Try.underlying4
  a4 := Try.isAgg4
  z4 := Try.sizeOf4
  v4 := Try.zeroValue4
  t22 := Try.underlying23
  a22 := Try.isAgg23
  z22 := Try.sizeOf23
  v22 := Try.zeroValue23
  a23 := Try.isAgg9
  z23 := Try.sizeOf9 }
def Try.laysIs_ren : Go.Shelf.Ren := ⟨fun | 11 => 62 | 19 => 85 | 25 => 115 | n => n, fun | 25 => 23 | 27 => 9 | 4 => 4 | 3 => 3 | 0 => 0 | n => n, fun | n => n⟩
theorem Try.laysIs : Go.Proofs.SlLaysO.n11 Try.prog Try.laysIs_ren := {
  mixed := by kernel_rfl
  f11 := ⟨Try.f62.name, by decide, Try.func62.trans (congrArg some (by kernel_rfl))⟩
  f19 := ⟨Try.f85.name, by decide, Try.func85.trans (congrArg some (by kernel_rfl))⟩
  f25 := ⟨Try.f115.name, by decide, Try.func115.trans (congrArg some (by kernel_rfl))⟩
  t0 := Try.underlying0
  a0 := Try.isAgg0
  z0 := Try.sizeOf0
  v0 := Try.zeroValue0
  t3 := Try.underlying3
  a3 := Try.isAgg3
  z3 := Try.sizeOf3
  v3 := Try.zeroValue3
  t4 := Try.underlying4
  a4 := Try.isAgg4
  z4 := Try.sizeOf4
  v4 := Try.zeroValue4
  t25 := Try.underlying23
  a25 := Try.isAgg23
  z25 := Try.sizeOf23
  v25 := Try.zeroValue23
  t27 := Try.underlying9
  a27 := Try.isAgg9
  z27 := Try.sizeOf9
  v27 := Try.zeroValue9 }
end Go.Proofs
