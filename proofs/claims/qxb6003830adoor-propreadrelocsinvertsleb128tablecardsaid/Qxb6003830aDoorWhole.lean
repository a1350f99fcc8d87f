/-
  PropReadRelocsInvertsLEB128Table (3) at every input: the early answers and the walk.
-/
import Derived.Test.Qxb6003830aDoorLaw
namespace Go.Proofs.Qxb6003830aDoor.Law
open Go.RowKit Go.Proofs.Qxb6003830aDoor.Base
set_option linter.unusedVariables false

set_option maxHeartbeats 4000000 in
set_option maxRecDepth 100000 in
theorem early (a0 : Option Addr) (n0 c0 : Nat) (a1 : Option Addr) (n1 c1 : Nat) (a2 : Option Addr) (n2 c2 : Nat) (sp : Int) (w : World)
    (h : 256 < n0 ∨ 1048576 < n1 ∨ 4096 < n2 ∨ sp < 0 ∨ 64 < sp) :
    Calls Tryd.prog 3 #[.slice a0 n0 c0, .slice a1 n1 c1, .slice a2 n2 c2, .int .i64 sp] w fun e w' => e = .returned (.bool true) ∧ w' = w := by
  by_cases h0 : 256 < n0
  · clear h
    go_enter Tryd.func3, Tryd.ntmps3
    go_wp2_with fail
    go_ret
    exact ⟨rfl, rfl⟩
  · by_cases h1 : 1048576 < n1
    · clear h
      go_enter Tryd.func3, Tryd.ntmps3
      go_wp2_with fail
      go_ret
      exact ⟨rfl, rfl⟩
    · by_cases h2 : 4096 < n2
      · clear h
        go_enter Tryd.func3, Tryd.ntmps3
        go_wp2_with fail
        go_ret
        exact ⟨rfl, rfl⟩
      · by_cases h3 : sp < 0
        · clear h
          go_enter Tryd.func3, Tryd.ntmps3
          go_wp2_with fail
          go_ret
          exact ⟨rfl, rfl⟩
        · have h4 : 64 < sp := by omega
          clear h
          go_enter Tryd.func3, Tryd.ntmps3
          go_wp2_with fail
          go_ret
          exact ⟨rfl, rfl⟩

theorem whole (a0 : Option Addr) (n0 c0 : Nat) (ps : List (Nat × Nat)) (a1 : Option Addr) (n1 c1 : Nat) (tl : List UInt8) (a2 : Option Addr) (n2 c2 : Nat) (js : List (Nat × Nat)) (sp : Int) (ea : Addr) (w : World)
    (w0 : IsTab w a0 n0 c0 ps) (w1 : IsBytes w a1 n1 c1 tl) (w2 : IsTab w a2 n2 c2 js) (hg : w.cell? ⟨0, 0, none⟩ = some (.iface 61 (.pointer (some ea)))) :
    Calls Tryd.prog 3 #[.slice a0 n0 c0, .slice a1 n1 c1, .slice a2 n2 c2, .int .i64 sp] w fun e w' => e = .returned (.bool true) ∧ Below w.heap.size w w' := by
  by_cases h : 256 < n0 ∨ 1048576 < n1 ∨ 4096 < n2 ∨ sp < 0 ∨ 64 < sp
  · refine (early a0 n0 c0 a1 n1 c1 a2 n2 c2 sp w h).mono ?_
    rintro e w' ⟨rfl, rfl⟩
    exact ⟨rfl, Below.refl _ _⟩
  · obtain ⟨m, rfl⟩ : ∃ m : Nat, sp = m := ⟨sp.toNat, by omega⟩
    exact main a0 n0 c0 ps a1 n1 c1 tl a2 n2 c2 js m ea w w0 w1 w2 hg (by omega) (by omega) (by omega) (by omega)
end Go.Proofs.Qxb6003830aDoor.Law
