/- bytes.Join laid at this program, in plain words (seat r2; printed by the kit's lay-plain.mjs; its numbers are this seat's). -/
import Derived.Test.YtnbhledkdkchlaaCmdText
import Derived.Ground.SlbNamesProg
import Derived.Shelf.Bytes.SlJoin
namespace Go.Proofs
open Go.Shelf
def Try.lays14_ren : Go.Shelf.Ren := ⟨fun | 14 => 66 | 15 => 87 | n => n, fun | 26 => 109 | 22 => 69 | 3 => 3 | 4 => 4 | 0 => 0 | 9 => 9 | 20 => 20 | 5 => 5 | n => n, fun | n => n⟩
theorem Try.lays14 : Go.Proofs.SlLaysJ.n14 Try.prog Try.lays14_ren := {
  mixed := by kernel_rfl
  f14 := Try.func66.trans (congrArg some (by kernel_rfl))
  f15 := Try.func87.trans (congrArg some (by kernel_rfl))
  t0 := Try.underlying0
  a0 := Try.isAgg0
  z0 := Try.sizeOf0
  v0 := Try.zeroValue0
  t3 := Try.underlying3
  a3 := Try.isAgg3
  z3 := Try.sizeOf3
  v3 := Try.zeroValue3
  t4 := Try.underlying4
  a4 := Try.isAgg4
  z4 := Try.sizeOf4
  v4 := Try.zeroValue4
  t9 := Try.underlying9
  a9 := Try.isAgg9
  z9 := Try.sizeOf9
  v9 := Try.zeroValue9
  t20 := Try.underlying20
  a20 := Try.isAgg20
  z20 := Try.sizeOf20
  v20 := Try.zeroValue20
  t22 := Try.underlying69
  a22 := Try.isAgg69
  z22 := Try.sizeOf69
  v22 := Try.zeroValue69
  t26 := Try.underlying109
  a26 := Try.isAgg109
  z26 := Try.sizeOf109
  v26 := Try.zeroValue109
  t5 := Try.underlying5
  z5 := Try.sizeOf5
  i5 := by kernel_rfl }
end Go.Proofs
