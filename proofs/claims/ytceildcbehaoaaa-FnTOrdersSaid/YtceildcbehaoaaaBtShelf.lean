/- The contracts of slices.Clone and slices.Reverse at this program, laid in plain words by the kit (lay-plain.mjs); the numbers are those of seat t1. -/
import Derived.Test.YtceildcbehaoaaaProg
import Derived.Ground.Names2Prog
import Derived.Shelf.Slices.Clone
import Derived.Shelf.Slices.ReverseS
namespace Go.Proofs
set_option linter.unusedVariables false
set_option linter.unusedSimpArgs false
open Go.Shelf
def Try.laysClone_ren : Go.Shelf.Ren := ⟨fun | 16 => 54 | n => n, fun | 24 => 23 | 9 => 9 | 4 => 4 | n => n, fun | n => n⟩
theorem Try.laysClone : Go.Proofs.Lays2.n16 Try.prog Try.laysClone_ren := {
  mixed := by kernel_rfl
  f16 := Try.func54.trans (congrArg some (by kernel_rfl))
  t4 := Try.underlying4
  a4 := Try.isAgg4
  z4 := Try.sizeOf4
  v4 := Try.zeroValue4
  t9 := Try.underlying9
  a9 := Try.isAgg9
  z9 := Try.sizeOf9
  v9 := Try.zeroValue9
  t24 := Try.underlying23
  a24 := Try.isAgg23
  z24 := Try.sizeOf23
  v24 := Try.zeroValue23
  i9 := by kernel_rfl }
def Try.laysReverse_ren : Go.Shelf.Ren := ⟨fun | 17 => 55 | n => n, fun | 24 => 23 | 9 => 9 | 3 => 3 | 4 => 4 | 0 => 0 | n => n, fun | n => n⟩
theorem Try.laysReverse : Go.Proofs.Lays2.n17 Try.prog Try.laysReverse_ren := {
  mixed := by kernel_rfl
  f17 := Try.func55.trans (congrArg some (by kernel_rfl))
  t0 := Try.underlying0
  a0 := Try.isAgg0
  z0 := Try.sizeOf0
  v0 := Try.zeroValue0
  t3 := Try.underlying3
  a3 := Try.isAgg3
  z3 := Try.sizeOf3
  v3 := Try.zeroValue3
  t4 := Try.underlying4
  a4 := Try.isAgg4
  z4 := Try.sizeOf4
  v4 := Try.zeroValue4
  t9 := Try.underlying9
  a9 := Try.isAgg9
  z9 := Try.sizeOf9
  v9 := Try.zeroValue9
  t24 := Try.underlying23
  a24 := Try.isAgg23
  z24 := Try.sizeOf23
  v24 := Try.zeroValue23 }
end Go.Proofs
