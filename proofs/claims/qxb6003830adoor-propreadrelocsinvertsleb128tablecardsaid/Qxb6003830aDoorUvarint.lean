/-
  uvarint (13): one varint off the front of the boxed slice.
-/
import Derived.Test.Qxb6003830aDoorShelf
import Derived.Test.Qxb6003830aDoorPlain
import Derived.Test.Qxb6003830aDoorSmall
namespace Go.Proofs.Qxb6003830aDoor.Uvarint
open Go.RowKit Go.Proofs.Qxb6003830aDoor.Plain
set_option linter.unusedVariables false

/-- the bytes l, in a block of which 'ok' holds. -/
def BS (w : World) (ok : Nat → Prop) (v : Value) (l : List UInt8) : Prop :=
  ∃ g o c, v = .slice (some ⟨g, o, none⟩) l.length c ∧ l.length ≤ c ∧ c ≤ 140737488355328 ∧ ok g ∧ ∀ j (hj : j < l.length), w.cell? ⟨g, o + j, none⟩ = some (.int .u8 (l[j]).toNat)

theorem BS.kept {w w' : World} {ok : Nat → Prop} {v : Value} {l : List UInt8} (h : BS w ok v l) (hc : ∀ g, ok g → ∀ o u, w.cell? ⟨g, o, none⟩ = some u → w'.cell? ⟨g, o, none⟩ = some u) : BS w' ok v l := by
  obtain ⟨g, o, c, h1, h2, h3, h4, h5⟩ := h
  exact ⟨g, o, c, h1, h2, h3, h4, fun j hj => hc g h4 _ _ (h5 j hj)⟩

theorem rd1_none {l : List UInt8} (h : rd1 l = none) : (Lib.uvarintDec l).2 ≤ 0 := by
  unfold rd1 at h
  split at h
  · assumption
  · cases h
theorem rd1_some {l : List UInt8} {x : Nat} {l' : List UInt8} (h : rd1 l = some (x, l')) : ∃ d : Nat, (Lib.uvarintDec l) = (x, (d : Int)) ∧ 1 ≤ d ∧ d ≤ l.length ∧ l' = l.drop d := by
  unfold rd1 at h
  split at h
  · cases h
  · rename_i hn
    simp only [Option.some.injEq, Prod.mk.injEq] at h
    have := rd1_le l
    refine ⟨(Lib.uvarintDec l).2.toNat, ?_, by omega, by omega, h.2.symm⟩
    rw [← h.1]
    ext
    · rfl
    · simp only; omega

set_option maxHeartbeats 1000000 in
theorem uvarint_no (P : Nat) (ok : Nat → Prop) (v E : Value) (l : List UInt8) (w : World) (hv : w.cell? ⟨P, 0, none⟩ = some v) (hb : BS w ok v l) (hg : w.cell? ⟨0, 0, none⟩ = some E) (h : rd1 l = none) :
    Calls Tryd.prog 13 #[.pointer (some ⟨P, 0, none⟩)] w fun e w' => e = .returned (.tuple #[.int .u64 0, E]) ∧ ∃ m, w' = w.drewN m := by
  obtain ⟨g, o, c, rfl, h2, h3, h4, h5⟩ := hb
  have hn := rd1_none h
  have H5 : Hid (∀ j (hj : j < l.length), w.cell? ⟨g, o + j, none⟩ = some (.int .u8 (l[j]).toNat)) := h5
  clear h5 h
  go_enter Tryd.func13, Tryd.ntmps13
  go_wp2_with fail
  refine (Tryd.binary_Uvarint g o l.length c l w rfl H5.out).mono ?_
  rintro e wx ⟨rfl, hwx⟩
  have hwx' := hwx.symm
  subst hwx'
  clear hwx
  generalize Lib.uvarintDec l = r at *
  go_wp2_with fail
  go_quiet (fail)
  go_wp2_with fail
  go_ret2
  exact ⟨rfl, _, rfl⟩

theorem bs_drop {w : World} {ok : Nat → Prop} {g o c d : Nat} {l : List UInt8} (h2 : l.length ≤ c) (h3 : c ≤ 140737488355328) (h4 : ok g) (hd : d ≤ l.length) (h5 : ∀ j (hj : j < l.length), w.cell? ⟨g, o + j, none⟩ = some (.int .u8 (l[j]).toNat)) :
    Hid (BS w ok (.slice (some ⟨g, o + d, none⟩) (l.length - d) (c - d)) (l.drop d)) := by
  have hl : (l.drop d).length = l.length - d := by simp
  refine show BS _ _ _ _ from ⟨g, o + d, c - d, by rw [hl], by omega, by omega, h4, fun j hj => ?_⟩
  have := h5 (d + j) (by omega)
  rw [← Nat.add_assoc] at this
  rw [this]
  simp
theorem bs_end {w : World} {ok : Nat → Prop} {g o d n' c' : Nat} {l : List UInt8} (hcd : l.length - d = n') (hd : d ≤ l.length) (h4 : ok g) (hz : n' = 0 := by omega) (hc : c' = 0 := by omega) :
    Hid (BS w ok (.slice (some ⟨g, o, none⟩) n' c') (l.drop d)) := by
  have hl : (l.drop d).length = n' := by simp [hcd]
  exact show BS _ _ _ _ from ⟨g, o, c', by rw [hl], by omega, by omega, h4, fun j hj => by omega⟩

set_option maxHeartbeats 1000000 in
theorem uvarint_yes (P : Nat) (ok : Nat → Prop) (v : Value) (l l' : List UInt8) (x : Nat) (w : World) (hv : w.cell? ⟨P, 0, none⟩ = some v) (hf : w.frozen? ⟨P, 0, none⟩ = false) (hb : BS w ok v l) (h : rd1 l = some (x, l')) :
    Calls Tryd.prog 13 #[.pointer (some ⟨P, 0, none⟩)] w fun e w' => ∃ v', e = .returned (.tuple #[.int .u64 x, .nilIface]) ∧ Hid (BS w ok v' l') ∧ w' = w.setCell ⟨P, 0, none⟩ v' := by
  obtain ⟨g, o, c, rfl, h2, h3, h4, h5⟩ := hb
  obtain ⟨d, hd, hd1, hd2, rfl⟩ := rd1_some h
  have H5 : Hid (∀ j (hj : j < l.length), w.cell? ⟨g, o + j, none⟩ = some (.int .u8 (l[j]).toNat)) := h5
  have HD : Hid (Lib.uvarintDec l = (x, (d : Int))) := hd
  clear h5 h hd
  go_enter Tryd.func13, Tryd.ntmps13
  go_wp2_with fail
  refine (Tryd.binary_Uvarint g o l.length c l w rfl H5.out).mono ?_
  rintro e wx ⟨rfl, hwx⟩
  have hwx' := hwx.symm
  subst hwx'
  clear hwx
  rw [HD.out]
  go_wp2_with fail
  · rename_i hcd
    go_ret2
    exact ⟨rfl, _, bs_end (by omega) hd2 h4, rfl⟩
  · go_ret2
    exact ⟨rfl, _, bs_drop h2 h3 h4 hd2 H5.out, rfl⟩
end Go.Proofs.Qxb6003830aDoor.Uvarint
