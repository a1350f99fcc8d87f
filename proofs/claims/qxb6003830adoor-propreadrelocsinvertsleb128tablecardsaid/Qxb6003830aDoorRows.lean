/-
  NARROWER THAN 'FOR EVERY INPUT', by the rows' own cells (each row's printed sentence says how): PropReadRelocsInvertsLEB128Table: ifaces, laid.
  DERIVED. THE GIVEN ROWS OF THIS SEAT. 1 by the template 'for every input the law returns true; each argument reads behind the call as it read before'; 0 by the template 'total and deterministic' (their statements: Qxb6003830aDoorTotals.lean).
  GIVEN WITH THE SEED: the statements are not yours to turn. If you find one false, say at which input.
  Laid BY PROGRAM, IN A SANDBOX (cutbox-rows.mjs): the forced cells as the released guide's own fill.sh prints them over the translation 091791c97d839daf… (all of the seat's roots in one cut). By AI agents, Wed Nov 11 2026. No macro, syntax, notation, axiom, sorry.
-/
import Derived.Test.Qxb6003830aDoorChecked
import GoSem.Claim
import GoSem.ClaimJoined
import GoSem.ClaimMapViews
import Derived.JoinedTies
import Derived.KernelRfl
namespace Go.Proofs.Qxb6003830aDoor
/- THE CELL 'sum', in the pinned program and in every row, IS THE sha256 OF THE DUMP (.gsa) THAT Qxb6003830aDoorProg.lean LOADS. Nothing in Lean hashes anything: it is a label: what it is worth is what the hold of that sum in a sandbox is worth. -/
noncomputable def Tryd.pinned : Pinned := { name := "qxb6003830adoor", sum := "091791c97d839daf31761a73fac3b2cad26ffd9e65b4301a14d29eca6b1c6a00", checked := Tryd.checked }
namespace Rows
def none {H : Type} : Left H := { results := [], args := [] }

/- WHAT THE LISTED PACKAGE-LEVEL VARIABLES READ AS WHEN THE CALL BEGINS. Each datum BY PROGRAM (the guide's laid-datum.mjs) off the statement by which the dump's own 'gosem.cut.vars' lays the variable. In a bare row this is a premise. The card (Qxb6003830aDoorCards.lean) ties it to the program's text. -/
def laid_example_com_shroudpack_shroudpack_pkg_archive_errMalformedExport {H : Type} : DataW H := .iface "*errors.errorString" (.ptr (.agg [.lit (.string [105, 116, 115, 32, 101, 120, 112, 111, 114, 116, 32, 100, 97, 116, 97, 32, 105, 115, 32, 109, 97, 108, 102, 111, 114, 109, 101, 100])]))

/-- 'zzlaws_pkg_archive_c2.PropReadRelocsInvertsLEB128Table': WHATEVER THE INPUT: true; the input reads as it did. -/
def propReadRelocsInvertsLEB128TableSpec : ChangeSpec := { name := "propReadRelocsInvertsLEB128Table", vars := ["example.com/shroudpack/shroudpack/pkg/archive.errMalformedExport"], fn := fun _ => fun
  | [d1, d2, d3, d4, g1] => { results := [.lit (.bool true)], args := [d1, d2, d3, d4], vars := [g1] }
  | _ => none }
def propReadRelocsInvertsLEB128TableRow : OpenClaim := { program := "qxb6003830adoor", sum := "091791c97d839daf31761a73fac3b2cad26ffd9e65b4301a14d29eca6b1c6a00", func := "example.com/shroudpack/shroudpack/zzlaws_pkg_archive_c2.PropReadRelocsInvertsLEB128Table", spec := "propReadRelocsInvertsLEB128Table", inPlace := ["internal/reflectlite.TypeOf"], unfollowed := true, recurses := true, named := ["example.com/shroudpack/shroudpack/pkg/archive.errMalformedExport"], ifaces := true, apart := false, laid := [("example.com/shroudpack/shroudpack/pkg/archive.errMalformedExport", laid_example_com_shroudpack_shroudpack_pkg_archive_errMalformedExport)] }
def PropReadRelocsInvertsLEB128TableSaid : Prop := propReadRelocsInvertsLEB128TableRow.holds Tryd.pinned (OpenSpec.ofChange propReadRelocsInvertsLEB128TableSpec)

/-- ITS FALSE NEIGHBOUR: 'it returns false'. Refute it at one input. -/
def propReadRelocsInvertsLEB128TableWrong : ChangeSpec := { name := "propReadRelocsInvertsLEB128Table", vars := ["example.com/shroudpack/shroudpack/pkg/archive.errMalformedExport"], fn := fun _ => fun
  | [d1, d2, d3, d4, g1] => { results := [.lit (.bool false)], args := [d1, d2, d3, d4], vars := [g1] }
  | _ => none }
def PropReadRelocsInvertsLEB128TableWrongFalsely : Prop := propReadRelocsInvertsLEB128TableRow.holds Tryd.pinned (OpenSpec.ofChange propReadRelocsInvertsLEB128TableWrong)

end Rows
end Go.Proofs.Qxb6003830aDoor
