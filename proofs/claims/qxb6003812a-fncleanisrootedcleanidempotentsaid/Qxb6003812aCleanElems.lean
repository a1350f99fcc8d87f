/-
  The walk of zzCleanElems (function 30): where 'chk' says yes she returns true.
-/
import Derived.Test.Qxb6003812aProg
import Derived.Test.Qxb6003812aCleanPlain
import Derived.WalkKit
import Derived.WalkSpells
import Derived.WalkLawsBesides
import Derived.Lib.Strings
namespace Go.Proofs.Qxb6003812a.CleanElems
open Go.RowKit Go.Proofs.Qxb6003812a.CleanPlain

/-- what stands since the last slash ('a' on), what is still to come ('k' on). -/
def Inv (s : ByteArray) (a k : Nat) : Prop := chk ((s.data.toList.drop a).take (k - a)) (s.data.toList.drop k) = true

theorem byte_at (s : ByteArray) (k : Nat) (h : k < s.size) : s.data.toList.drop k = s[k] :: s.data.toList.drop (k + 1) := by
  rw [List.drop_eq_getElem_cons (by simpa using h)]
  rfl

theorem byte_47 (c : UInt8) : c.toNat = 47 ↔ c = 47 :=
  ⟨fun h => UInt8.toNat_inj.1 (by rw [h]; rfl), fun h => by rw [h]; rfl⟩

theorem good_said (s : ByteArray) (a k : Nat) (h : good ((s.data.toList.drop a).take (k - a)) = true) :
    (s.extract a k).toList.isEmpty = false ∧ ((s.extract a k).toList == [46]) = false ∧ ((s.extract a k).toList == [46, 46]) = false := by
  have h' := (good_iff _).1 h
  rw [← Lib.extract_toList] at h'
  refine ⟨?_, ?_, ?_⟩
  · rw [List.isEmpty_eq_false_iff]; exact h'.1
  · rw [beq_eq_false_iff_ne]; exact h'.2.1
  · rw [beq_eq_false_iff_ne]; exact h'.2.2

theorem inv_slash (s : ByteArray) (a k : Nat) (h : k < s.size) (hc : s[k].toNat = 47) (hi : Inv s a k) :
    good ((s.data.toList.drop a).take (k - a)) = true ∧ Inv s (k + 1) (k + 1) := by
  unfold Inv at hi ⊢
  rw [byte_at s k h, (byte_47 _).1 hc, chk, if_pos rfl, Bool.and_eq_true] at hi
  refine ⟨hi.1, ?_⟩
  simpa using hi.2

theorem inv_end (s : ByteArray) (a k : Nat) (h : k = s.size) (hi : Inv s a k) :
    good ((s.data.toList.drop a).take (k - a)) = true := by
  unfold Inv at hi
  have e : s.data.toList.drop k = [] := List.drop_eq_nil_of_le (by rw [← Lib.size_eq]; omega)
  rw [e, chk] at hi
  exact hi

theorem inv_other (s : ByteArray) (a k : Nat) (h : k < s.size) (hak : a ≤ k) (hc : ¬ s[k].toNat = 47) (hi : Inv s a k) : Inv s a (k + 1) := by
  unfold Inv at hi ⊢
  rw [byte_at s k h, chk, if_neg (fun e => hc ((byte_47 _).2 e))] at hi
  have e : (s.data.toList.drop a).take (k + 1 - a) = (s.data.toList.drop a).take (k - a) ++ [s[k]] := by
    have e1 : k + 1 - a = (k - a) + 1 := by omega
    rw [e1, List.take_succ_eq_append_getElem (by rw [List.length_drop, ← Lib.size_eq]; omega)]
    congr 1
    simp only [List.getElem_drop]
    congr 1
    have : a + (k - a) = k := by omega
    simp only [this]
    rfl
  rw [e]
  exact hi

set_option maxHeartbeats 400000 in
theorem elems_inv (s : ByteArray) (w : World) (hs : s.size ≤ 1000000) (h2 : 2 ≤ s.size) (hb : s[0].toNat = 47) (hinv : Inv s 1 1) :
    Calls Try.prog 30 #[.string s] w fun e w' => e = .returned (.bool true) ∧ w' = w := by
  have hd : decide ((s.size : Int) < 2) = false := by simp; omega
  go_enter Try.func30, Try.ntmps30
  go_wp2
  go_loop [3, 4] (fun st i => ∃ a k : Nat, 1 ≤ k ∧ k ≤ s.size + 1 ∧ a ≤ k ∧ st = .int .i64 a ∧ i = .int .i64 k ∧ (k ≤ s.size → Inv s a k)) (fun _ i => s.size + 1 - (intOf i).toNat)
  case atStart => exact ⟨1, 1, by omega, by omega, by omega, rfl, rfl, fun _ => hinv⟩
  case round =>
    obtain ⟨a, k, hk1, hk2, hak, rfl, rfl, hi⟩ := hrel
    by_cases hle : k ≤ s.size
    · have hi' := hi hle
      by_cases hlt : k < s.size
      · by_cases hc : s[k].toNat = 47
        · obtain ⟨hg, hn⟩ := inv_slash s a k hlt hc hi'
          obtain ⟨g0, g1, g2⟩ := good_said s a k hg
          have hne : ((k : Int) == (s.size : Int)) = false := by rw [beq_eq_false_iff_ne]; omega
          clear hinv hi hi' hg
          have HN : Hid (Inv s (k + 1) (k + 1)) := hn
          clear hn
          go_wp2
          go_round
          case rel => exact ⟨k + 1, k + 1, by omega, by omega, by omega, by go_num, by go_num, fun _ => HN.out⟩
          case measure => simp [intOf]; omega
        · have hn := inv_other s a k hlt hak hc hi'
          have hne : ((k : Int) == (s.size : Int)) = false := by rw [beq_eq_false_iff_ne]; omega
          have hcb : ((s[k].toNat : Int) == 47) = false := by rw [beq_eq_false_iff_ne]; omega
          clear hinv hi hi'
          have HN : Hid (Inv s a (k + 1)) := hn
          clear hn
          go_wp2
          go_round
          case rel => exact ⟨a, k + 1, by omega, by omega, by omega, by go_num, by go_num, fun _ => HN.out⟩
          case measure => simp [intOf]; omega
      · have hke : k = s.size := by omega
        have hg := inv_end s a k hke hi'
        obtain ⟨g0, g1, g2⟩ := good_said s a k hg
        have hne : ((k : Int) == (s.size : Int)) = true := by rw [beq_iff_eq]; omega
        clear hinv hi hi' hg hke
        go_wp2
        go_round
        case rel => exact ⟨k + 1, k + 1, by omega, by omega, by omega, by go_num, by go_num, fun h => absurd h (by omega)⟩
        case measure => simp [intOf]; omega
    · go_wp2
      go_ret
      exact ⟨rfl, rfl⟩

/-- zzCleanElems at '/' and elements that 'chk' takes. -/
theorem elems_true (s : ByteArray) (w : World) (hs : s.size ≤ 1000000) (t : List UInt8) (hl : s.data.toList = 47 :: t) (hne : t ≠ []) (hc : chk [] t = true) :
    Calls Try.prog 30 #[.string s] w fun e w' => e = .returned (.bool true) ∧ w' = w := by
  have hsz : s.size = t.length + 1 := by rw [Lib.size_eq, hl]; simp
  have h2 : 2 ≤ s.size := by
    have := List.length_pos_iff.2 hne
    omega
  have hb := byte_at s 0 (by omega)
  rw [hl] at hb
  simp only [List.drop_zero, List.drop_succ_cons, List.cons.injEq] at hb
  refine elems_inv s w hs h2 ?_ ?_
  · rw [← hb.1]; rfl
  · unfold Inv
    rw [hl]
    simpa using hc
end Go.Proofs.Qxb6003812a.CleanElems
