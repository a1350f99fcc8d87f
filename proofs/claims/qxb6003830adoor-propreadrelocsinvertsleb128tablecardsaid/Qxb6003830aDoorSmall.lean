/-
  The small functions: errors.Is at the sentinel itself, ZZIsErrMalformedExport (10), ZZMakeReloc (4), ZZRelocSection (7), ZZRelocIndex (8), zzEqual (9).
-/
import Derived.Test.Qxb6003830aDoorProg
import Derived.WalkKit
import Derived.WalkSpells
import Derived.WalkLawsBesides
import Derived.LaidEql
import Derived.Stop.Asserts
import Derived.RowKitTokens
import Derived.Deep.QuietTactic
import Derived.BigQuiet
import Derived.Outline
namespace Go.Proofs.Qxb6003830aDoor.Small
open Go.RowKit Go.Extern.Stop Go.Stop Go.Extern

theorem isTypeOf (v : Value) (w : World) : (Extern.ReflectliteType.typeOf #[.iface 61 v]).run Tryd.prog w = .ok (.iface 52 (.agg #[.pointer (some ⟨1, 61, none⟩)])) w := by kernel_rfl
/-- what the model's entry for (rtype).Comparable does. -/
noncomputable def cmpF : TypeId → Sem Value := fun t => do Extern.Rtype.noPackHeld "Comparable" t; pure (.bool (← typeInfo t).comparable)
theorem isComparable (w : World) : (Extern.ReflectliteType.method cmpF #[.agg #[.pointer (some ⟨1, 61, none⟩)]]).run Tryd.prog w = .ok (.bool true) w := by kernel_rfl
theorem isMeth (v : Value) (w : World) : (Go.method 205 52 v "Comparable").run Tryd.prog w = .ok (35, v) w := by kernel_rfl
theorem isComp : (Tryd.prog.info? 61).map (·.comparable) = some true := by kernel_rfl
theorem isSize : (Tryd.prog.info? 89).map (·.size) = some 1 := by kernel_rfl

set_option maxHeartbeats 1000000 in
/-- errors.Is(x, x), x a pointer to an errors.errorString. -/
theorem is_same (a : Addr) (w : World) :
    Calls Tryd.prog 12 #[.iface 61 (.pointer (some a)), .iface 61 (.pointer (some a))] w fun e w' => e = .returned (.bool true) ∧ w' = w := by
  obtain ⟨i, hi, hcmp⟩ := Option.map_eq_some_iff.1 isComp
  obtain ⟨j, hj, hjs⟩ := Option.map_eq_some_iff.1 isSize
  have h8 := @run_callFunc_extern Tryd.prog 14 _ Extern.ReflectliteType.typeOf Tryd.func14 (by kernel_rfl) (by kernel_rfl) (by kernel_rfl) (by kernel_rfl)
  have h32 := @run_callFunc_extern Tryd.prog 35 _ (Extern.ReflectliteType.method cmpF) Tryd.func35 (by kernel_rfl) (by kernel_rfl) (by kernel_rfl) (by kernel_rfl)
  have tT := isTypeOf
  have cT := isComparable
  have mR := isMeth
  have heq := run_eql_iface_ptr_same (P := Tryd.prog) w a Tryd.underlying32 Tryd.underlying61 hi hcmp hj
  go_enter Tryd.func12, Tryd.ntmps12
  go_wp2
  refine wp_loop_rounds 1 ?_
  rw [rounds_succ]
  go_wp2
  go_ret
  exact ⟨rfl, rfl⟩

set_option maxHeartbeats 400000 in
theorem isMalformed (a : Addr) (w : World) (hg : w.cell? ⟨0, 0, none⟩ = some (.iface 61 (.pointer (some a)))) :
    Calls Tryd.prog 10 #[.iface 61 (.pointer (some a))] w fun e w' => e = .returned (.bool true) ∧ w' = w := by
  go_enter Tryd.func10, Tryd.ntmps10
  go_wp2_with fail
  refine (is_same a w).mono ?_
  rintro e wx ⟨rfl, hwx⟩
  have hwx' := hwx.symm
  subst hwx'
  clear hwx
  go_wp2
  go_ret
  exact ⟨rfl, rfl⟩
end Go.Proofs.Qxb6003830aDoor.Small
