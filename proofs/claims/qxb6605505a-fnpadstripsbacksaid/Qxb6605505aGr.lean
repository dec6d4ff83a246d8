/-
  Seat b6605505a: the shelf's contract of slices.Grow laid at this seat's translation, by hand (one table of numbers, one field a fact).
-/
import Derived.Shelf.Spec.SlicesGrow
import Derived.Test.Qxb6605505aProg
namespace Go.Proofs.Qxb6605505a
open Go.Shelf
def grow_ren : Go.Shelf.Ren := ⟨fun | 4 => 11 | n => n, fun | 25 => 5 | n => n, fun | n => n⟩
theorem grow_lays : Go.Proofs.Lays8.n4 Try.prog grow_ren := {
  mixed := by kernel_rfl
  f4 := ⟨Try.f11.name, by kernel_rfl, Try.func11.trans (congrArg some (by kernel_rfl))⟩
  t0 := Try.underlying0
  a0 := Try.isAgg0
  z0 := Try.sizeOf0
  v0 := Try.zeroValue0
  t3 := Try.underlying3
  a3 := Try.isAgg3
  z3 := Try.sizeOf3
  v3 := Try.zeroValue3
  t4 := Try.underlying4
  a4 := Try.isAgg4
  z4 := Try.sizeOf4
  v4 := Try.zeroValue4
  t9 := Try.underlying9
  a9 := Try.isAgg9
  z9 := Try.sizeOf9
  v9 := Try.zeroValue9
  t20 := Try.underlying20
  a20 := Try.isAgg20
  z20 := Try.sizeOf20
  v20 := Try.zeroValue20
  t22 := Try.underlying22
  a22 := Try.isAgg22
  z22 := Try.sizeOf22
  v22 := Try.zeroValue22 }

theorem info5 : (Try.prog.info? 5).map (fun i => (i.zero, i.size, i.bytes)) = some (some (.int .u8 0), 1, 1) := by kernel_rfl
end Go.Proofs.Qxb6605505a
