/-
  binary.Uvarint's contracts of the shelf, laid at this program's dump in plain words (written by the kit's lay-plain tool for this program).
-/
import Derived.Shelf.Bin.Uvarint
import Derived.Shelf.Bin.UvarintEmpty
import Derived.Test.Qxb6003830aDoorProg
namespace Go.Proofs
open Go.Shelf
def Tryd.laysBin45_ren : Go.Shelf.Ren := ⟨fun | 45 => 16 | n => n, fun | 22 => 23 | 33 => 25 | 3 => 3 | 45 => 39 | 0 => 0 | 5 => 5 | 4 => 4 | n => n, fun | n => n⟩
theorem Tryd.laysBin45 : Go.Proofs.LaysBin.n45 Tryd.prog Tryd.laysBin45_ren := {
  mixed := by kernel_rfl
  f45 := Tryd.func16.trans (congrArg some (by kernel_rfl))
  t0 := Tryd.underlying0
  a0 := Tryd.isAgg0
  z0 := Tryd.sizeOf0
  v0 := Tryd.zeroValue0
  i0 := by kernel_rfl
  t3 := Tryd.underlying3
  a3 := Tryd.isAgg3
  z3 := Tryd.sizeOf3
  v3 := Tryd.zeroValue3
  i3 := by kernel_rfl
  t4 := Tryd.underlying4
  a4 := Tryd.isAgg4
  z4 := Tryd.sizeOf4
  v4 := Tryd.zeroValue4
  i4 := by kernel_rfl
  t5 := Tryd.underlying5
  a5 := Tryd.isAgg5
  z5 := Tryd.sizeOf5
  v5 := Tryd.zeroValue5
  i5 := by kernel_rfl
  t22 := Tryd.underlying23
  a22 := Tryd.isAgg23
  z22 := Tryd.sizeOf23
  v22 := Tryd.zeroValue23
  i22 := by kernel_rfl
  t33 := Tryd.underlying25
  a33 := Tryd.isAgg25
  z33 := Tryd.sizeOf25
  v33 := Tryd.zeroValue25
  i33 := by kernel_rfl
  t45 := Tryd.underlying39
  a45 := Tryd.isAgg39
  z45 := Tryd.sizeOf39
  v45 := Tryd.zeroValue39
  i45 := by kernel_rfl }
open Go.RowKit Go.Lib in
/-- binary.Uvarint (LAID: no walk: one application.) -/
theorem Tryd.binary_Uvarint (g o n c : Nat) (l : List UInt8) (w : World) (hl : l.length = n) (hcell : ∀ j (hj : j < l.length), w.cell? ⟨g, o + j, none⟩ = some (.int .u8 (l[j]).toNat)) :
    Calls Tryd.prog 16 #[.slice (some ⟨g, o, none⟩) n c] w fun e w' => e = .returned (.tuple #[.int .u64 (Lib.uvarintDec l).1, .int .i64 (Lib.uvarintDec l).2]) ∧ w' = w := Any.binary_Uvarint Tryd.laysBin45 g o n c l w hl hcell
open Go.RowKit Go.Lib in
/-- binary.Uvarint of nothing (LAID: no walk: one application.) -/
theorem Tryd.binary_Uvarint_empty (ao : Option Addr) (c : Nat) (w : World) :
    Calls Tryd.prog 16 #[.slice ao 0 c] w fun e w' => e = .returned (.tuple #[.int .u64 (Lib.uvarintDec []).1, .int .i64 (Lib.uvarintDec []).2]) ∧ w' = w := Any.binary_Uvarint_empty Tryd.laysBin45 ao c w
end Go.Proofs
