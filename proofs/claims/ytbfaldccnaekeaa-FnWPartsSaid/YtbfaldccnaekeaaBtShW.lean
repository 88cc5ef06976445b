/- Maps from strings: the contracts of slices.Clone and slices.Reverse of words at this program, laid in plain words by the kit (lay-plain.mjs). -/
import Derived.Shelf.SlGeneric
import Derived.Ground.SlgnProg
import Derived.Shelf.SlLaysE0
import Derived.Test.YtbfaldccnaekeaaProg
namespace Go.Proofs
set_option linter.unusedVariables false
set_option linter.unusedSimpArgs false
open Go.Shelf
def Try.laysCloneW_ren : Go.Shelf.Ren := ⟨fun | 41 => 69 | n => n, fun | 22 => 22 | 23 => 38 | 4 => 4 | n => n, fun | n => n⟩
theorem Try.laysCloneW : Go.Proofs.SlLaysE0.n41 Try.prog Try.laysCloneW_ren := {
  mixed := by kernel_rfl
  f41 := ⟨Try.f69.name, by decide, Try.func69.trans (congrArg some (by kernel_rfl))⟩
  t4 := Try.underlying4
  a4 := Try.isAgg4
  z4 := Try.sizeOf4
  v4 := Try.zeroValue4
  t22 := Try.underlying22
  a22 := Try.isAgg22
  z22 := Try.sizeOf22
  v22 := Try.zeroValue22 }
def Try.laysReverseW_ren : Go.Shelf.Ren := ⟨fun | 35 => 70 | n => n, fun | 22 => 22 | 23 => 38 | 3 => 3 | 4 => 4 | 0 => 0 | n => n, fun | n => n⟩
theorem Try.laysReverseW : Go.Proofs.SlLaysE0.n35 Try.prog Try.laysReverseW_ren := {
  mixed := by kernel_rfl
  f35 := ⟨Try.f70.name, by decide, Try.func70.trans (congrArg some (by kernel_rfl))⟩
  t0 := Try.underlying0
  a0 := Try.isAgg0
  z0 := Try.sizeOf0
  v0 := Try.zeroValue0
  t3 := Try.underlying3
  a3 := Try.isAgg3
  z3 := Try.sizeOf3
  v3 := Try.zeroValue3
  t4 := Try.underlying4
  a4 := Try.isAgg4
  z4 := Try.sizeOf4
  v4 := Try.zeroValue4
  t22 := Try.underlying22
  a22 := Try.isAgg22
  z22 := Try.sizeOf22
  v22 := Try.zeroValue22 }
end Go.Proofs
