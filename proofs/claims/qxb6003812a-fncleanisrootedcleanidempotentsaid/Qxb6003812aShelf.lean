/-
  path.Clean's contract of the shelf, laid at this program's dump in plain words (written by the kit's lay-plain tool for this program).
-/
import Derived.Shelf.Path.Clean
import Derived.Test.Qxb6003812aProg
namespace Go.Proofs
open Go.Shelf
def Try.laysPah30_ren : Go.Shelf.Ren := ⟨fun | 30 => 46 | 46 => 50 | 47 => 51 | 48 => 52 | n => n, fun | 9 => 9 | 4 => 4 | 5 => 5 | 3 => 3 | 42 => 85 | 0 => 0 | 48 => 90 | 30 => 39 | n => n, fun | n => n⟩
theorem Try.laysPah30 : Go.Proofs.Lays.ph30 Try.prog Try.laysPah30_ren := {
  mixed := by kernel_rfl
  f30 := Try.func46.trans (congrArg some (by kernel_rfl))
  f46 := Try.func50.trans (congrArg some (by kernel_rfl))
  f47 := Try.func51.trans (congrArg some (by kernel_rfl))
  f48 := Try.func52.trans (congrArg some (by kernel_rfl))
  t0 := Try.underlying0
  a0 := Try.isAgg0
  z0 := Try.sizeOf0
  v0 := Try.zeroValue0
  t3 := Try.underlying3
  a3 := Try.isAgg3
  z3 := Try.sizeOf3
  v3 := Try.zeroValue3
  t4 := Try.underlying4
  a4 := Try.isAgg4
  z4 := Try.sizeOf4
  v4 := Try.zeroValue4
  t5 := Try.underlying5
  a5 := Try.isAgg5
  z5 := Try.sizeOf5
  v5 := Try.zeroValue5
  t9 := Try.underlying9
  a9 := Try.isAgg9
  z9 := Try.sizeOf9
  v9 := Try.zeroValue9
  t30 := Try.underlying39
  a30 := Try.isAgg39
  z30 := Try.sizeOf39
  v30 := Try.zeroValue39
  t42 := Try.underlying85
  a42 := Try.isAgg85
  z42 := Try.sizeOf85
  v42 := Try.zeroValue85
  t48 := Try.underlying90
  a48 := Try.isAgg90
  z48 := Try.sizeOf90
  v48 := Try.zeroValue90
  info5 := by kernel_rfl }
open Go.RowKit Go.Lib in
/-- path.Clean (LAID: no walk: one application.) -/
theorem Try.path_Clean (s : ByteArray) (w : World) (hbig : s.size ≤ 281474976710656) :
    Calls Try.prog 46 #[.string s] w fun e w' => e = .returned (.string ⟨(Pa.clean s.data.toList).toArray⟩) ∧ Below w.heap.size w w' := Any.path_Clean Try.laysPah30 s w hbig
end Go.Proofs
