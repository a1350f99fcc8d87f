import Derived.Test.Qxb6003812aProg
import Derived.Test.Qxb6003812aCleanPlain
import Derived.Test.Qxb6003812aCleanElems
import Derived.WalkKit
import Derived.WalkSpells
import Derived.WalkLawsBesides
import Derived.Lib.Strings
import Derived.Outline
namespace Go.Proofs.Qxb6003812a.CleanWalks
open Go.RowKit Go.Proofs.Qxb6003812a.CleanPlain

def PathClean : Prop := ∀ (s : ByteArray) (w : World), s.size ≤ 281474976710656 →
    Calls Try.prog 46 #[.string s] w fun e w' => e = .returned (.string ⟨(Lib.Pa.cleanEls s.data.toList).toArray⟩) ∧ Below w.heap.size w w'

theorem head_is (s : ByteArray) (h0 : 1 ≤ s.size) : (s.extract 0 1).toList = [s[0]] := by
  rw [Lib.extract_toList, CleanElems.byte_at s 0 h0]
  simp

theorem slash_data (s : ByteArray) : (({ data := #[47] } : ByteArray) ++ s).data.toList = 47 :: s.data.toList := by
  simp

theorem slash_size (s : ByteArray) : (({ data := #[47] } : ByteArray) ++ s).size = s.size + 1 := by
  rw [Lib.size_eq, slash_data, Lib.size_eq]; simp

theorem rooted_yes (s : ByteArray) (h0 : 1 ≤ s.size) (hb : s[0].toNat = 47) : Lib.Pa.cleanEls s.data.toList = ucl s.data.toList := by
  unfold ucl rooted
  rw [if_pos]
  have := CleanElems.byte_at s 0 h0
  rw [List.drop_zero] at this
  rw [this, List.head?_cons, (CleanElems.byte_47 _).1 hb]

theorem rooted_no (s : ByteArray) (h : s.data.toList.head? ≠ some 47) : Lib.Pa.cleanEls (({ data := #[47] } : ByteArray) ++ s).data.toList = ucl s.data.toList := by
  unfold ucl rooted
  rw [if_neg h, slash_data]

set_option maxHeartbeats 400000 in
theorem uclean (hP : PathClean) (s : ByteArray) (w : World) (hs : s.size ≤ 1000000) :
    Calls Try.prog 45 #[.string s] w fun e w' => e = .returned (.string ⟨(ucl s.data.toList).toArray⟩) ∧ Below w.heap.size w w' := by
  by_cases h0 : 1 ≤ s.size
  · by_cases hb : s[0].toNat = 47
    · have hx : ((s.extract 0 1).toList == [47]) = true := by rw [head_is s h0, (CleanElems.byte_47 _).1 hb]; rfl
      have hr := rooted_yes s h0 hb
      have HR : Hid (Lib.Pa.cleanEls s.data.toList = ucl s.data.toList) := hr
      clear hr hb
      go_enter Try.func45, Try.ntmps45
      go_wp2_with (first | (go_at_call 49; go_in) | (go_at_call 54; go_in))
      refine (hP _ _ (by omega)).mono ?_
      rintro e w1 ⟨rfl, hb1⟩
      rw [HR.out]
      go_wp2
      go_ret
      exact ⟨rfl, hb1⟩
    · have hx : ((s.extract 0 1).toList == [47]) = false := by
        rw [head_is s h0, beq_eq_false_iff_ne]
        intro e
        simp only [List.cons.injEq, and_true] at e
        exact hb ((CleanElems.byte_47 _).2 e)
      have hr := rooted_no s (by
        have := CleanElems.byte_at s 0 h0
        rw [List.drop_zero] at this
        rw [this, List.head?_cons]
        intro e
        simp only [Option.some.injEq] at e
        exact hb ((CleanElems.byte_47 _).2 e))
      have HR : Hid (Lib.Pa.cleanEls (({ data := #[47] } : ByteArray) ++ s).data.toList = ucl s.data.toList) := hr
      clear hr hb
      go_enter Try.func45, Try.ntmps45
      go_wp2_with (first | (go_at_call 49; go_in) | (go_at_call 54; go_in))
      refine (hP _ _ (by rw [slash_size]; omega)).mono ?_
      rintro e w1 ⟨rfl, hb1⟩
      rw [HR.out]
      go_wp2
      go_ret
      exact ⟨rfl, hb1⟩
  · have hr := rooted_no s (by
      have : s.data.toList = [] := by
        apply List.eq_nil_of_length_eq_zero
        rw [← Lib.size_eq]; omega
      rw [this]; simp)
    have HR : Hid (Lib.Pa.cleanEls (({ data := #[47] } : ByteArray) ++ s).data.toList = ucl s.data.toList) := hr
    clear hr
    go_enter Try.func45, Try.ntmps45
    go_wp2_with (first | (go_at_call 49; go_in) | (go_at_call 54; go_in))
    refine (hP _ _ (by rw [slash_size]; omega)).mono ?_
    rintro e w1 ⟨rfl, hb1⟩
    rw [HR.out]
    go_wp2
    go_ret
    exact ⟨rfl, hb1⟩

set_option maxHeartbeats 400000 in
theorem zzclean (hP : PathClean) (s : ByteArray) (w : World) (hs : s.size ≤ 1000000) :
    Calls Try.prog 29 #[.bool false, .string s] w fun e w' => e = .returned (.string ⟨(ucl s.data.toList).toArray⟩) ∧ Below w.heap.size w w' := by
  go_enter Try.func29, Try.ntmps29
  go_wp2_with (first | (go_at_call 39; go_in))
  refine (uclean hP _ _ hs).mono ?_
  rintro e w1 ⟨rfl, hb1⟩
  have HB : Hid (Below w.heap.size w w1) := ((Below.refl _ _).alloc (Nat.le_refl _) _).trans (hb1.mono (by simp))
  clear hb1
  go_wp2
  go_ret
  exact ⟨rfl, HB.out⟩

set_option maxHeartbeats 400000 in
theorem bytes_yes (s : ByteArray) (w : World) (hs : s.size ≤ 65536) :
    Calls Try.prog 28 #[.string s] w fun e w' => e = .returned (.bool true) ∧ w' = w := by
  go_enter Try.func28, Try.ntmps28
  go_wp2
  go_ret
  exact ⟨rfl, rfl⟩

set_option maxHeartbeats 400000 in
theorem bytes_any (s : ByteArray) (w : World) (hs : s.size ≤ maxLen) :
    Calls Try.prog 28 #[.string s] w fun e w' => (∃ b, e = .returned (.bool b)) ∧ w' = w := by
  unfold maxLen at hs
  go_enter Try.func28, Try.ntmps28
  go_wp2
  all_goals
    go_ret
    exact ⟨⟨_, rfl⟩, rfl⟩

set_option maxHeartbeats 1000000 in
theorem law_big (s : ByteArray) (w : World) (hs : s.size ≤ maxLen) (hbig : 65536 < s.size) :
    Calls Try.prog 6 #[.string s] w fun e w' => e = .returned (.bool true) ∧ Below w.heap.size w w' := by
  unfold maxLen at hs
  go_enter Try.func6, Try.ntmps6
  go_wp2_with fail
  refine (bytes_any _ _ (by unfold maxLen; omega)).mono ?_
  rintro e w1 ⟨⟨b, rfl⟩, rfl⟩
  cases b
  · go_wp2
    go_ret
    exact ⟨rfl, Below.refl _ _⟩
  · go_wp2
    go_ret
    exact ⟨rfl, Below.refl _ _⟩

theorem bytes_ext {a b : ByteArray} (h : a.data.toList = b.data.toList) : a = b := by
  obtain ⟨⟨a⟩⟩ := a
  obtain ⟨⟨b⟩⟩ := b
  simp only at h
  rw [h]

/-- ZZClean, what comes back under a name. -/
theorem zzclean_named (hP : PathClean) (s : ByteArray) (w : World) (hs : s.size ≤ 1000000) :
    Calls Try.prog 29 #[.bool false, .string s] w fun e w' => ∃ o : ByteArray, e = .returned (.string o) ∧ Hid (o.data.toList = ucl s.data.toList) ∧ Hid (Below w.heap.size w w') :=
  (zzclean hP s w hs).mono fun _ _ h => ⟨_, h.1, rfl, h.2⟩

/-- what the law asks of the cleaned name, in the walk's words. -/
theorem asked (s o : ByteArray) (h : o.data.toList = ucl s.data.toList) :
    1 ≤ o.size ∧ o.size ≤ s.size + 1 ∧ (∃ h0 : 0 < o.size, o[0].toNat = 47) ∧ ((o.toList == [47]) = true ∨ ((o.toList == [47]) = false ∧ ∃ t, o.data.toList = 47 :: t ∧ t ≠ [] ∧ chk [] t = true)) := by
  obtain ⟨t, ht, hl, hor⟩ := ucl_asked s.data.toList
  have hsz : o.size = (ucl s.data.toList).length := by rw [Lib.size_eq, h]
  have h1 : 1 ≤ o.size := by rw [hsz, ht]; simp
  have hb := CleanElems.byte_at o 0 h1
  rw [List.drop_zero, h, ht] at hb
  simp only [List.cons.injEq] at hb
  refine ⟨h1, by rw [hsz, Lib.size_eq]; exact hl, ⟨h1, by rw [← hb.1]; rfl⟩, ?_⟩
  rcases hor with rfl | ⟨hne, hc⟩
  · left
    rw [Lib.toList_data, h, ht]
    rfl
  · right
    refine ⟨?_, t, by rw [h, ht], hne, hc⟩
    rw [Lib.toList_data, h, ht, beq_eq_false_iff_ne]
    intro e
    simp only [List.cons.injEq, true_and] at e
    exact hne e

set_option maxHeartbeats 1000000 in
theorem law_small (hP : PathClean) (s : ByteArray) (w : World) (hs : s.size ≤ 65536) :
    Calls Try.prog 6 #[.string s] w fun e w' => e = .returned (.bool true) ∧ Below w.heap.size w w' := by
  go_enter Try.func6, Try.ntmps6
  go_wp2_with fail
  refine (bytes_yes _ _ hs).mono ?_
  rintro e _ ⟨rfl, rfl⟩
  go_wp2_with fail
  refine (zzclean_named hP _ _ (by omega)).mono ?_
  rintro e w1 ⟨o, rfl, ho, hb1⟩
  obtain ⟨h1, hle, ⟨h0, hc⟩, hor⟩ := asked s o ho.out
  have hz : ((o.size : Int) == 0) = false := by rw [beq_eq_false_iff_ne]; omega
  rcases hor with hr | ⟨hr, t, ht, hne, hck⟩
  · go_wp2_with fail
    refine (zzclean_named hP _ _ (by omega)).mono ?_
    rintro e w2 ⟨o2, rfl, ho2, hb2⟩
    obtain rfl : o2 = o := bytes_ext (by rw [ho2.out, ho.out, ucl_idem])
    go_wp2_with fail
    refine (zzclean_named hP _ _ (by rw [slash_size]; omega)).mono ?_
    rintro e w3 ⟨o3, rfl, ho3, hb3⟩
    obtain rfl : o3 = o2 := bytes_ext (by rw [ho3.out, ho.out, slash_data, ucl_slash])
    go_wp2
    go_ret
    exact ⟨rfl, (hb1.out.trans (hb2.out.mono hb1.out.size)).trans (hb3.out.mono (Nat.le_trans hb1.out.size hb2.out.size))⟩
  · have HT : Hid (o.data.toList = 47 :: t) := ht
    have HC : Hid (chk [] t = true) := hck
    have HN : Hid (t ≠ []) := hne
    clear ht hne hck
    go_wp2_with fail
    refine (CleanElems.elems_true _ _ (by omega) t HT.out HN.out HC.out).mono ?_
    rintro e _ ⟨rfl, rfl⟩
    go_wp2_with fail
    refine (zzclean_named hP _ _ (by omega)).mono ?_
    rintro e w2 ⟨o2, rfl, ho2, hb2⟩
    obtain rfl : o2 = o := bytes_ext (by rw [ho2.out, ho.out, ucl_idem])
    go_wp2_with fail
    refine (zzclean_named hP _ _ (by rw [slash_size]; omega)).mono ?_
    rintro e w3 ⟨o3, rfl, ho3, hb3⟩
    obtain rfl : o3 = o2 := bytes_ext (by rw [ho3.out, ho.out, slash_data, ucl_slash])
    go_wp2
    go_ret
    exact ⟨rfl, (hb1.out.trans (hb2.out.mono hb1.out.size)).trans (hb3.out.mono (Nat.le_trans hb1.out.size hb2.out.size))⟩

theorem law (hP : PathClean) (s : ByteArray) (hs : s.size ≤ maxLen) (w : World) :
    Calls Try.prog 6 #[.string s] w fun e w' => e = .returned (.bool true) ∧ Below w.heap.size w w' := by
  by_cases h : s.size ≤ 65536
  · exact law_small hP s w h
  · exact law_big s w hs (by omega)
end Go.Proofs.Qxb6003812a.CleanWalks
