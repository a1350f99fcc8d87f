/-
  DERIVED. GIVEN WITH THE SEED: THE CARDS: each row of Qxb6003830aDoorRows.lean that lists a variable, with what it lists TIED to the program's text (the seventh form; the later family's looks); each row that meets fmt, with fmt's text TOLD by the authors' own Lean function (tested against real Go, not proved from fmt's source: count such statements apart). THE CARD IS WHAT COUNTS. Prove the row's statement (the work); the ties are given (Qxb6003830aDoorTie.lean); close each card by the builder's one call (the guide's Derived/Test/ToyasCard.lean, 'card_holds'). Laid BY PROGRAM, IN A SANDBOX (cutbox-door.mjs). By AI agents, Wed Nov 11 2026. No macro, syntax, notation, axiom, sorry.
-/
import Derived.Test.Qxb6003830aDoorRows
import GoSem.ClaimSeven
namespace Go.Proofs.Qxb6003830aDoor
namespace Rows

/-- THE TIED CARD OF 'zzlaws_pkg_archive_c2.PropReadRelocsInvertsLEB128Table'. -/
def propReadRelocsInvertsLEB128TableCard : Claim7 := { stood := { row := propReadRelocsInvertsLEB128TableRow, standIns := [], harness := (true, "a613f47105325d24fea2043734694d9e63490b99a626faf926bd410d0c5e5a98"), looks := true }, kinds := [], alts := [], laidByText := true, laidKinds := [.sentinel], laidTests := true, laidLooks := .later }
def PropReadRelocsInvertsLEB128TableCardSaid : Prop := Claim7.holds Tryd.pinned (.plain (OpenSpec.ofChange propReadRelocsInvertsLEB128TableSpec)) propReadRelocsInvertsLEB128TableCard
end Rows
end Go.Proofs.Qxb6003830aDoor
