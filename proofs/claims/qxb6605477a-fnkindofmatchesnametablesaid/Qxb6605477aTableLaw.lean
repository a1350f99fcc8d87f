/-
  FnKindOfMatchesNameTable (3): the walk.
-/
import Derived.Test.Qxb6605477aKindAids
namespace Go.Proofs.Qxb6605477a.TableLaw
open Go.RowKit Go.Proofs.Qxb6605477a.KindPlain Go.Proofs.Qxb6605477a.KindWalks Go.Proofs.Qxb6605477a.KindAids
set_option linter.unusedVariables false

set_option maxHeartbeats 1000000 in
theorem big (a0 : Option Addr) (n0 c0 : Nat) (w : World) (h0 : n0 ≤ 9223372036854775807) (h : ¬ n0 ≤ 1048576) :
    Calls Try.prog 3 #[.slice a0 n0 c0] w fun e w' => e = .returned (.bool true) ∧ Below w.heap.size w w' := by
  go_enter Try.func3, Try.ntmps3
  go_wp2_with fail
  refine (bytes_no _ _ _ _ h0 h).mono ?_
  rintro e wx ⟨rfl, hwx⟩
  have hwx' := hwx.symm
  subst hwx'
  clear hwx
  go_wp2_with fail
  go_ret
  exact ⟨rfl, Below.refl _ _⟩

/-- the kind that the table's first i rows give. -/
def Want (l : List Int) (i : Nat) (k : Int) : Prop := (∃ j, j < i ∧ Spells l (nm j) ∧ k = kd j) ∨ ((∀ j, j < i → ¬ Spells l (nm j)) ∧ k = 0)

theorem want_yes {l : List Int} {i : Nat} (h : Spells l (nm i)) : Want l (i + 1) (kd i) := .inl ⟨i, by omega, h, rfl⟩
theorem want_no {l : List Int} {i : Nat} {k : Int} (hw : Want l i k) (h : ¬ Spells l (nm i)) : Want l (i + 1) k := by
  rcases hw with ⟨j, hj, hs, rfl⟩ | ⟨hn, rfl⟩
  · exact .inl ⟨j, by omega, hs, rfl⟩
  · refine .inr ⟨fun j hj => ?_, rfl⟩
    by_cases e : j = i
    · subst e; exact h
    · exact hn j (by omega)

set_option maxHeartbeats 2000000 in
theorem small (a0 : Option Addr) (n c0 : Nat) (z0 : List Int) (w : World) (w0 : IsRow .u8 w a0 n c0 z0) (hn : n ≤ 1048576) :
    Calls Try.prog 3 #[.slice a0 n c0] w fun e w' => e = .returned (.bool true) ∧ Below w.heap.size w w' := by
  have W0 : Hid (IsRow .u8 w a0 n c0 z0) := w0
  clear w0
  go_enter Try.func3, Try.ntmps3
  go_wp2_with fail
  refine (bytes_yes _ _ _ _ hn).mono ?_
  rintro e wx ⟨rfl, hwx⟩
  have hwx' := hwx.symm
  subst hwx'
  clear hwx
  go_wp2_with fail
  refine (clone_any a0 n c0 z0 w W0.out (by omega)).mono ?_
  rintro e w1 ⟨ao, rfl, ow, hl0, hb1⟩
  generalize z0.take n = L at *
  have OW : Hid (Sl w1 ao L) := ow
  have HB : Hid (Below w.heap.size w w1) := hb1
  clear W0 ow hb1
  go_wp2_with fail
  go_loopw [3, 4] (fun d3 d4 wr => ∃ (i : Nat) (k : Int), i ≤ 12 ∧ d3 = .int .u8 k ∧ d4 = .int .i64 i ∧ wr = w1 ∧ Hid (Want L i k)) (fun _ d _ => 12 - (intOf d).toNat)
  case atStart => exact ⟨0, 0, by omega, rfl, rfl, rfl, (.inr ⟨fun j hj => absurd hj (by omega), rfl⟩ : Want L 0 0)⟩
  case round =>
    obtain ⟨i, k, hi, rfl, rfl, hwr, hw⟩ := hrel
    have hwr' := hwr.symm
    subst hwr'
    clear hwr
    by_cases hlt : i < 12
    · have hlt2 : (i : Int) < 12 := by omega
      go_wp2_with fail
      refine (known_named i hlt w1).mono ?_
      rintro e wx ⟨s, ki, rfl, hs, hk, hs1, hs2, hk0, hk7, hwx⟩
      have hwx' := hwx.symm
      subst hwx'
      clear hwx
      go_wp2_with fail
      refine (foldEq ao n n L s w1 hl0.out (by omega) hs1 hs2 OW.out).mono ?_
      rintro e wx ⟨⟨r, rfl, hr⟩, hwx⟩
      have hwx' := hwx.symm
      subst hwx'
      clear hwx
      have hiff : Spells L (nm i) ↔ Fit L s := by rw [hs.out]; exact spells_fits hlt
      cases r
      · have HW : Hid (Want L (i + 1) k) := want_no hw.out (fun h => absurd (hr.2 (hiff.1 h)) (by decide))
        clear hr hiff hw
        go_wp2_with fail
        go_roundw
        case rel => exact ⟨i + 1, k, by omega, rfl, by go_num, trivial, HW⟩
        case measure => simp [intOf]; omega
      · have HW : Hid (Want L (i + 1) ki) := by rw [hk.out]; exact want_yes (hiff.2 (hr.1 rfl))
        clear hr hiff hw
        go_wp2_with fail
        go_roundw
        case rel => exact ⟨i + 1, ki, by omega, rfl, by go_num, trivial, HW⟩
        case measure => simp [intOf]; omega
    · obtain rfl : i = 12 := by omega
      go_wp2_with fail
      refine (zzKindOf ao n n L w1 hl0.out (by omega) OW.out).mono ?_
      rintro e wx ⟨v, rfl, hv, m, rfl⟩
      obtain rfl : v = k := kind_one hv.out hw.out
      clear hv hw
      have hB : Hid (Below w.heap.size w (w1.drewN m)) := drew_below HB.out
      clear HB
      generalize w1.drewN m = w2 at *
      go_wp2_with fail
      go_ret
      exact ⟨rfl, hB.out⟩

theorem law (a0 : Option Addr) (n c0 : Nat) (z0 : List Int) (w : World) (w0 : IsRow .u8 w a0 n c0 z0) :
    Calls Try.prog 3 #[.slice a0 n c0] w fun e w' => e = .returned (.bool true) ∧ Below w.heap.size w w' := by
  by_cases h : n ≤ 1048576
  · exact small a0 n c0 z0 w w0 h
  · refine big a0 n c0 w ?_ h
    rcases w0 with ⟨_, rfl, _⟩ | ⟨_, _, h1, h2, _⟩
    · omega
    · unfold maxLen at h2; omega
end Go.Proofs.Qxb6605477a.TableLaw
