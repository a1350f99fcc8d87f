/-
  kindOf and what it calls: lower (22), equalFold (20), named (19), kindOf (17), ZZkindOf (11); kindKnown (9).
-/
import Derived.Test.Qxb6605477aProg
import Derived.Test.Qxb6605477aKindPlain
import Derived.WalkKit
import Derived.WalkSpells
import Derived.WalkLawsBesides
import Derived.Lib.Strings
import Derived.Deep.QuietTactic
import Derived.BigQuiet
namespace Go.Proofs.Qxb6605477a.KindWalks
open Go.RowKit Go.Proofs.Qxb6605477a.KindPlain
set_option linter.unusedVariables false

set_option maxHeartbeats 400000 in
theorem lower (c : Int) (w : World) : Calls Try.prog 22 #[.int .u8 c] w fun e w' => e = .returned (.int .u8 (low c)) ∧ w' = w := by
  by_cases h1 : 65 ≤ c
  · by_cases h2 : c ≤ 90
    · have e : low c = c + 32 := by unfold low; rw [if_pos ⟨h1, h2⟩]
      go_enter Try.func22, Try.ntmps22
      go_wp2
      go_ret
      refine ⟨?_, rfl⟩
      rw [e]; go_num
    · have e : low c = c := by unfold low; rw [if_neg (by omega)]
      go_enter Try.func22, Try.ntmps22
      go_wp2
      go_ret
      exact ⟨rfl, rfl⟩
  · have e : low c = c := by unfold low; rw [if_neg (by omega)]
    go_enter Try.func22, Try.ntmps22
    go_wp2
    go_ret
    exact ⟨rfl, rfl⟩

/-- the bytes l in block b. -/
def Row (w : World) (b : Nat) (l : List Int) : Prop := ∀ k, k < l.length → w.cell? ⟨b, k, none⟩ = some (.int .u8 (l.getD k 0))

theorem more {w wr : World} (h : Hid (∃ m, wr = w.drewN m)) (n : Nat) : Hid (∃ m, wr.drewN n = w.drewN m) := by
  obtain ⟨m, rfl⟩ := h.out
  exact (⟨m + n, World.drewN_drewN _ _ _⟩ : ∃ m', (w.drewN m).drewN n = w.drewN m')

theorem no_iff {p : Prop} (h : ¬ p) : Hid (false = true ↔ p) := (⟨fun e => absurd e (by decide), fun e => absurd e h⟩ : false = true ↔ p)
theorem yes_iff {p : Prop} (h : p) : Hid (true = true ↔ p) := (⟨fun _ => h, fun _ => rfl⟩ : true = true ↔ p)

set_option maxHeartbeats 2000000 in
theorem equalFold (b n c : Nat) (l : List Int) (s : ByteArray) (w : World) (hl : l.length = n) (hs : n = s.size) (hn : n ≤ 1000000) (hrow : Row w b l) :
    Calls Try.prog 20 #[.slice (some ⟨b, 0, none⟩) n c, .string s] w fun e w' => ∃ r : Bool, e = .returned (.bool r) ∧ Hid (r = true ↔ Spells l s) ∧ ∃ m, w' = w.drewN m := by
  have HR : Hid (Row w b l) := hrow
  have HL : Hid (l.length = n) := hl
  have HS : Hid (n = s.size) := hs
  have hne : (((n : Int)) == (s.size : Int)) = true := by rw [beq_iff_eq]; omega
  clear hrow hl hs
  go_enter Try.func20, Try.ntmps20
  go_wp2_with fail
  go_loopw [13] (fun d wr => ∃ k : Nat, k ≤ n ∧ d = .int .i64 k ∧ Hid (∃ m, wr = w.drewN m) ∧ Hid (∀ j, j < k → low (l.getD j 0) = low (bAt s j))) (fun d _ => n - (intOf d).toNat)
  case atStart => exact ⟨0, Nat.zero_le _, rfl, (⟨0, rfl⟩ : ∃ m, w = w.drewN m), show ∀ j, j < 0 → _ from fun j hj => absurd hj (by omega)⟩
  case round =>
    obtain ⟨k, hk, rfl, hm, hall⟩ := hrel
    rename_i wr
    by_cases hlt : k < n
    · have hc : wr.cell? ⟨b, k, none⟩ = some (.int .u8 (l.getD k 0)) := by
        obtain ⟨m, rfl⟩ := hm.out
        exact HR.out k (by have := HL.out; omega)
      have hks : k < s.size := by have := HS.out; omega
      have hlt2 : (k : Int) < (n : Int) := by omega
      have hks2 : (k : Int) < (s.size : Int) := by omega
      have hb := bAt_lt hks
      generalize hv : l.getD k 0 = v at *
      by_cases he : low v = low (bAt s k)
      · have hd : (low v == low ((s[k].toNat : Nat) : Int)) = true := by rw [hb, beq_iff_eq]; exact he
        have HE : Hid (∀ j, j < k + 1 → low (l.getD j 0) = low (bAt s j)) := show ∀ j, _ from by
          intro j hj
          by_cases hjk : j < k
          · exact hall.out j hjk
          · obtain rfl : j = k := by omega
            rw [hv]; exact he
        clear hall hb he hv
        go_wp2_with fail
        go_quiet (first | (go_at_call 22; exact Calls.quiet_of_same (lower _ _)))
        go_wp2
        go_roundw
        case rel => exact ⟨k + 1, by omega, by go_num, more hm _, HE⟩
        case measure => simp [intOf]; omega
      · have hd : (low v == low ((s[k].toNat : Nat) : Int)) = false := by rw [hb, beq_eq_false_iff_ne]; exact he
        have HN : Hid (¬ Spells l s) := show ¬ _ from fun hsp => he (by rw [← hv]; exact hsp.2 k hks)
        clear hall hb he hv
        go_wp2_with fail
        go_quiet (first | (go_at_call 22; exact Calls.quiet_of_same (lower _ _)))
        go_wp2
        go_ret
        exact ⟨false, rfl, no_iff HN.out, (more hm _).out⟩
    · have HE : Hid (Spells l s) := (⟨HL.out.trans HS.out, fun i hi => hall.out i (by have := HS.out; omega)⟩ : Spells l s)
      clear hall
      go_wp2
      go_ret
      exact ⟨true, rfl, yes_iff HE.out, hm.out⟩

set_option maxHeartbeats 400000 in
theorem named (b n c : Nat) (l : List Int) (s : ByteArray) (k : Int) (w : World) (hl : l.length = n) (hs : n = s.size) (hn : n ≤ 1000000) (hrow : Row w b l) :
    Calls Try.prog 19 #[.slice (some ⟨b, 0, none⟩) n c, .string s, .int .u8 k] w fun e w' => ∃ v : Int, e = .returned (.int .u8 v) ∧ Hid ((Spells l s ∧ v = k) ∨ (¬ Spells l s ∧ v = 0)) ∧ ∃ m, w' = w.drewN m := by
  have HR : Hid (Row w b l) := hrow
  have HL : Hid (l.length = n) := hl
  have HS : Hid (n = s.size) := hs
  clear hrow hl hs
  go_enter Try.func19, Try.ntmps19
  go_wp2_with fail
  refine (equalFold b n c l s w HL.out HS.out hn HR.out).mono ?_
  rintro e wx ⟨r, rfl, hr, m, rfl⟩
  cases r
  · have hns : Hid (¬ Spells l s) := show ¬ _ from fun h => by cases (hr.out.2 h)
    clear hr
    go_wp2
    go_ret
    exact ⟨_, rfl, (.inr ⟨hns.out, rfl⟩ : _ ∨ _), m, rfl⟩
  · have hys : Hid (Spells l s) := hr.out.1 rfl
    clear hr
    go_wp2
    go_ret
    exact ⟨_, rfl, (.inl ⟨hys.out, rfl⟩ : _ ∨ _), m, rfl⟩

theorem kind_none {l : List Int} (h : ∀ i, i < 12 → l.length ≠ (nm i).size) : KindIs l 0 := .inr ⟨fun i hi hs => h i hi hs.1, rfl⟩

theorem kind_said {l : List Int} {v : Int} (i : Nat) (hi : i < 12) (h : (Spells l (nm i) ∧ v = kd i) ∨ (¬ Spells l (nm i) ∧ v = 0)) (ho : ∀ j, j < 12 → j ≠ i → ¬ Spells l (nm j)) : KindIs l v := by
  rcases h with ⟨hs, rfl⟩ | ⟨hs, rfl⟩
  · exact .inl ⟨i, hi, hs, rfl⟩
  · refine .inr ⟨fun j hj hsj => ?_, rfl⟩
    by_cases e : j = i
    · subst e; exact hs hsj
    · exact ho j hj e hsj

theorem kind_alone {l : List Int} {v : Int} (i : Nat) (hi : i < 12) (h : (Spells l (nm i) ∧ v = kd i) ∨ (¬ Spells l (nm i) ∧ v = 0)) (hl : l.length = (nm i).size) (ho : ∀ j, j < 12 → j ≠ i → (nm j).size ≠ (nm i).size) : KindIs l v :=
  kind_said i hi h fun j hj hne hs => ho j hj hne (by rw [← hs.1, hl])

theorem kind_pair {l : List Int} {v : Int} (i k : Nat) (hi : i < 12) (h : (Spells l (nm i) ∧ v = kd i) ∨ (¬ Spells l (nm i) ∧ v = 0)) (hk : ¬ Spells l (nm k)) (hl : l.length = (nm i).size) (ho : ∀ j, j < 12 → j ≠ i → j ≠ k → (nm j).size ≠ (nm i).size) : KindIs l v :=
  kind_said i hi h fun j hj hne hs => by
    by_cases e : j = k
    · subst e; exact hk hs
    · exact ho j hj hne e (by rw [← hs.1, hl])

/-- a slice of the bytes l that lie from a block's start (or nothing). -/
def Sl (w : World) (a : Option Addr) (l : List Int) : Prop := 0 < l.length → ∃ b, a = some ⟨b, 0, none⟩ ∧ Row w b l

set_option maxHeartbeats 1000000 in
theorem kindOf_none (a : Option Addr) (n c : Nat) (l : List Int) (w : World) (hl : l.length = n) (hn : n ≤ 2000000) (h2 : n ≠ 2) (h4 : n ≠ 4) (h6 : n ≠ 6) (h7 : n ≠ 7) (h10 : n ≠ 10) (h14 : n ≠ 14) (h16 : n ≠ 16) (h17 : n ≠ 17) (h18 : n ≠ 18) (h19 : n ≠ 19) :
    Calls Try.prog 17 #[.slice a n c] w fun e w' => ∃ v : Int, e = .returned (.int .u8 v) ∧ Hid (KindIs l v) ∧ ∃ m, w' = w.drewN m := by
  have HK : Hid (KindIs l 0) := kind_none (by
    intro i hi e
    have : (nm i).size = 2 ∨ (nm i).size = 4 ∨ (nm i).size = 6 ∨ (nm i).size = 7 ∨ (nm i).size = 10 ∨ (nm i).size = 14 ∨ (nm i).size = 16 ∨ (nm i).size = 17 ∨ (nm i).size = 18 ∨ (nm i).size = 19 := by
      clear e; revert i; decide
    omega)
  have t2 : ((n : Int) == 2) = false := by rw [beq_eq_false_iff_ne]; omega
  have t4 : ((n : Int) == 4) = false := by rw [beq_eq_false_iff_ne]; omega
  have t6 : ((n : Int) == 6) = false := by rw [beq_eq_false_iff_ne]; omega
  have t7 : ((n : Int) == 7) = false := by rw [beq_eq_false_iff_ne]; omega
  have t10 : ((n : Int) == 10) = false := by rw [beq_eq_false_iff_ne]; omega
  have t14 : ((n : Int) == 14) = false := by rw [beq_eq_false_iff_ne]; omega
  have t16 : ((n : Int) == 16) = false := by rw [beq_eq_false_iff_ne]; omega
  have t17 : ((n : Int) == 17) = false := by rw [beq_eq_false_iff_ne]; omega
  have t18 : ((n : Int) == 18) = false := by rw [beq_eq_false_iff_ne]; omega
  have t19 : ((n : Int) == 19) = false := by rw [beq_eq_false_iff_ne]; omega
  clear h2 h4 h6 h7 h10 h14 h16 h17 h18 h19 hl
  go_enter Try.func17, Try.ntmps17
  go_wp2
  go_ret
  exact ⟨_, rfl, HK, 0, rfl⟩

set_option maxHeartbeats 1000000 in
theorem kindOf2 (b c : Nat) (l : List Int) (w : World) (hl : l.length = 2) (hrow : Row w b l) :
    Calls Try.prog 17 #[.slice (some ⟨b, 0, none⟩) 2 c] w fun e w' => ∃ v : Int, e = .returned (.int .u8 v) ∧ Hid (KindIs l v) ∧ ∃ m, w' = w.drewN m := by
  have HR : Hid (Row w b l) := hrow
  have HL : Hid (l.length = 2) := hl
  clear hrow hl
  go_enter Try.func17, Try.ntmps17
  go_wp2_with fail
  refine (named b 2 c l (nm 0) (kd 0) w HL.out rfl (by omega) HR.out).mono ?_
  rintro e wx ⟨v, rfl, hv, m, rfl⟩
  go_wp2
  go_ret
  exact ⟨_, rfl, kind_alone 0 (by omega) hv.out HL.out (by decide), m, rfl⟩

set_option maxHeartbeats 1000000 in
theorem kindOf4 (b c : Nat) (l : List Int) (w : World) (hl : l.length = 4) (hrow : Row w b l) :
    Calls Try.prog 17 #[.slice (some ⟨b, 0, none⟩) 4 c] w fun e w' => ∃ v : Int, e = .returned (.int .u8 v) ∧ Hid (KindIs l v) ∧ ∃ m, w' = w.drewN m := by
  have HR : Hid (Row w b l) := hrow
  have HL : Hid (l.length = 4) := hl
  clear hrow hl
  go_enter Try.func17, Try.ntmps17
  go_wp2_with fail
  refine (named b 4 c l (nm 1) (kd 1) w HL.out rfl (by omega) HR.out).mono ?_
  rintro e wx ⟨v, rfl, hv, m, rfl⟩
  go_wp2
  go_ret
  exact ⟨_, rfl, kind_alone 1 (by omega) hv.out HL.out (by decide), m, rfl⟩

set_option maxHeartbeats 1000000 in
theorem kindOf6 (b c : Nat) (l : List Int) (w : World) (hl : l.length = 6) (hrow : Row w b l) :
    Calls Try.prog 17 #[.slice (some ⟨b, 0, none⟩) 6 c] w fun e w' => ∃ v : Int, e = .returned (.int .u8 v) ∧ Hid (KindIs l v) ∧ ∃ m, w' = w.drewN m := by
  have HR : Hid (Row w b l) := hrow
  have HL : Hid (l.length = 6) := hl
  clear hrow hl
  go_enter Try.func17, Try.ntmps17
  go_wp2_with fail
  refine (named b 6 c l (nm 2) (kd 2) w HL.out rfl (by omega) HR.out).mono ?_
  rintro e wx ⟨v, rfl, hv, m, rfl⟩
  go_wp2
  go_ret
  exact ⟨_, rfl, kind_alone 2 (by omega) hv.out HL.out (by decide), m, rfl⟩

set_option maxHeartbeats 1000000 in
theorem kindOf14 (b c : Nat) (l : List Int) (w : World) (hl : l.length = 14) (hrow : Row w b l) :
    Calls Try.prog 17 #[.slice (some ⟨b, 0, none⟩) 14 c] w fun e w' => ∃ v : Int, e = .returned (.int .u8 v) ∧ Hid (KindIs l v) ∧ ∃ m, w' = w.drewN m := by
  have HR : Hid (Row w b l) := hrow
  have HL : Hid (l.length = 14) := hl
  clear hrow hl
  go_enter Try.func17, Try.ntmps17
  go_wp2_with fail
  refine (named b 14 c l (nm 7) (kd 7) w HL.out rfl (by omega) HR.out).mono ?_
  rintro e wx ⟨v, rfl, hv, m, rfl⟩
  go_wp2
  go_ret
  exact ⟨_, rfl, kind_alone 7 (by omega) hv.out HL.out (by decide), m, rfl⟩

set_option maxHeartbeats 1000000 in
theorem kindOf16 (b c : Nat) (l : List Int) (w : World) (hl : l.length = 16) (hrow : Row w b l) :
    Calls Try.prog 17 #[.slice (some ⟨b, 0, none⟩) 16 c] w fun e w' => ∃ v : Int, e = .returned (.int .u8 v) ∧ Hid (KindIs l v) ∧ ∃ m, w' = w.drewN m := by
  have HR : Hid (Row w b l) := hrow
  have HL : Hid (l.length = 16) := hl
  clear hrow hl
  go_enter Try.func17, Try.ntmps17
  go_wp2_with fail
  refine (named b 16 c l (nm 8) (kd 8) w HL.out rfl (by omega) HR.out).mono ?_
  rintro e wx ⟨v, rfl, hv, m, rfl⟩
  go_wp2
  go_ret
  exact ⟨_, rfl, kind_alone 8 (by omega) hv.out HL.out (by decide), m, rfl⟩

set_option maxHeartbeats 1000000 in
theorem kindOf17 (b c : Nat) (l : List Int) (w : World) (hl : l.length = 17) (hrow : Row w b l) :
    Calls Try.prog 17 #[.slice (some ⟨b, 0, none⟩) 17 c] w fun e w' => ∃ v : Int, e = .returned (.int .u8 v) ∧ Hid (KindIs l v) ∧ ∃ m, w' = w.drewN m := by
  have HR : Hid (Row w b l) := hrow
  have HL : Hid (l.length = 17) := hl
  clear hrow hl
  go_enter Try.func17, Try.ntmps17
  go_wp2_with fail
  refine (named b 17 c l (nm 9) (kd 9) w HL.out rfl (by omega) HR.out).mono ?_
  rintro e wx ⟨v, rfl, hv, m, rfl⟩
  go_wp2
  go_ret
  exact ⟨_, rfl, kind_alone 9 (by omega) hv.out HL.out (by decide), m, rfl⟩

set_option maxHeartbeats 1000000 in
theorem kindOf18 (b c : Nat) (l : List Int) (w : World) (hl : l.length = 18) (hrow : Row w b l) :
    Calls Try.prog 17 #[.slice (some ⟨b, 0, none⟩) 18 c] w fun e w' => ∃ v : Int, e = .returned (.int .u8 v) ∧ Hid (KindIs l v) ∧ ∃ m, w' = w.drewN m := by
  have HR : Hid (Row w b l) := hrow
  have HL : Hid (l.length = 18) := hl
  clear hrow hl
  go_enter Try.func17, Try.ntmps17
  go_wp2_with fail
  refine (named b 18 c l (nm 10) (kd 10) w HL.out rfl (by omega) HR.out).mono ?_
  rintro e wx ⟨v, rfl, hv, m, rfl⟩
  go_wp2
  go_ret
  exact ⟨_, rfl, kind_alone 10 (by omega) hv.out HL.out (by decide), m, rfl⟩

set_option maxHeartbeats 1000000 in
theorem kindOf19 (b c : Nat) (l : List Int) (w : World) (hl : l.length = 19) (hrow : Row w b l) :
    Calls Try.prog 17 #[.slice (some ⟨b, 0, none⟩) 19 c] w fun e w' => ∃ v : Int, e = .returned (.int .u8 v) ∧ Hid (KindIs l v) ∧ ∃ m, w' = w.drewN m := by
  have HR : Hid (Row w b l) := hrow
  have HL : Hid (l.length = 19) := hl
  clear hrow hl
  go_enter Try.func17, Try.ntmps17
  go_wp2_with fail
  refine (named b 19 c l (nm 11) (kd 11) w HL.out rfl (by omega) HR.out).mono ?_
  rintro e wx ⟨v, rfl, hv, m, rfl⟩
  go_wp2
  go_ret
  exact ⟨_, rfl, kind_alone 11 (by omega) hv.out HL.out (by decide), m, rfl⟩

set_option maxHeartbeats 1000000 in
theorem kindOf7 (b c : Nat) (l : List Int) (w : World) (hl : l.length = 7) (hrow : Row w b l) :
    Calls Try.prog 17 #[.slice (some ⟨b, 0, none⟩) 7 c] w fun e w' => ∃ v : Int, e = .returned (.int .u8 v) ∧ Hid (KindIs l v) ∧ ∃ m, w' = w.drewN m := by
  have HR : Hid (Row w b l) := hrow
  have HL : Hid (l.length = 7) := hl
  clear hrow hl
  go_enter Try.func17, Try.ntmps17
  go_wp2_with fail
  refine (equalFold b 7 c l (nm 3) w HL.out rfl (by omega) HR.out).mono ?_
  rintro e wx ⟨r, rfl, hr, m, rfl⟩
  cases r
  · have hns : Hid (¬ Spells l (nm 3)) := show ¬ _ from fun h => by cases (hr.out.2 h)
    clear hr
    go_wp2_with fail
    refine (named b 7 c l (nm 4) (kd 4) (w.drewN m) HL.out rfl (by omega) HR.out).mono ?_
    rintro e wx ⟨v, rfl, hv, m2, rfl⟩
    go_wp2
    go_ret
    exact ⟨_, rfl, kind_pair 4 3 (by omega) hv.out hns.out HL.out (by decide), _, rfl⟩
  · have hys : Hid (Spells l (nm 3)) := hr.out.1 rfl
    clear hr
    go_wp2
    go_ret
    exact ⟨_, rfl, (.inl ⟨3, by omega, hys.out, rfl⟩ : KindIs l 7), m, rfl⟩

set_option maxHeartbeats 1000000 in
theorem kindOf10 (b c : Nat) (l : List Int) (w : World) (hl : l.length = 10) (hrow : Row w b l) :
    Calls Try.prog 17 #[.slice (some ⟨b, 0, none⟩) 10 c] w fun e w' => ∃ v : Int, e = .returned (.int .u8 v) ∧ Hid (KindIs l v) ∧ ∃ m, w' = w.drewN m := by
  have HR : Hid (Row w b l) := hrow
  have HL : Hid (l.length = 10) := hl
  clear hrow hl
  go_enter Try.func17, Try.ntmps17
  go_wp2_with fail
  refine (equalFold b 10 c l (nm 5) w HL.out rfl (by omega) HR.out).mono ?_
  rintro e wx ⟨r, rfl, hr, m, rfl⟩
  cases r
  · have hns : Hid (¬ Spells l (nm 5)) := show ¬ _ from fun h => by cases (hr.out.2 h)
    clear hr
    go_wp2_with fail
    refine (named b 10 c l (nm 6) (kd 6) (w.drewN m) HL.out rfl (by omega) HR.out).mono ?_
    rintro e wx ⟨v, rfl, hv, m2, rfl⟩
    go_wp2
    go_ret
    exact ⟨_, rfl, kind_pair 6 5 (by omega) hv.out hns.out HL.out (by decide), _, rfl⟩
  · have hys : Hid (Spells l (nm 5)) := hr.out.1 rfl
    clear hr
    go_wp2
    go_ret
    exact ⟨_, rfl, (.inl ⟨5, by omega, hys.out, rfl⟩ : KindIs l 5), m, rfl⟩

theorem kindOf (a : Option Addr) (n c : Nat) (l : List Int) (w : World) (hl : l.length = n) (hn : n ≤ 2000000) (h : Sl w a l) :
    Calls Try.prog 17 #[.slice a n c] w fun e w' => ∃ v : Int, e = .returned (.int .u8 v) ∧ Hid (KindIs l v) ∧ ∃ m, w' = w.drewN m := by
  by_cases h0 : n = 0
  · exact kindOf_none a n c l w hl hn (by omega) (by omega) (by omega) (by omega) (by omega) (by omega) (by omega) (by omega) (by omega) (by omega)
  · obtain ⟨b, rfl, hr⟩ := h (by omega)
    by_cases h2 : n = 2
    · subst h2; exact kindOf2 b c l w hl hr
    by_cases h4 : n = 4
    · subst h4; exact kindOf4 b c l w hl hr
    by_cases h6 : n = 6
    · subst h6; exact kindOf6 b c l w hl hr
    by_cases h7 : n = 7
    · subst h7; exact kindOf7 b c l w hl hr
    by_cases h10 : n = 10
    · subst h10; exact kindOf10 b c l w hl hr
    by_cases h14 : n = 14
    · subst h14; exact kindOf14 b c l w hl hr
    by_cases h16 : n = 16
    · subst h16; exact kindOf16 b c l w hl hr
    by_cases h17 : n = 17
    · subst h17; exact kindOf17 b c l w hl hr
    by_cases h18 : n = 18
    · subst h18; exact kindOf18 b c l w hl hr
    by_cases h19 : n = 19
    · subst h19; exact kindOf19 b c l w hl hr
    exact kindOf_none _ n c l w hl hn h2 h4 h6 h7 h10 h14 h16 h17 h18 h19

set_option maxHeartbeats 400000 in
theorem zzKindOf (a : Option Addr) (n c : Nat) (l : List Int) (w : World) (hl : l.length = n) (hn : n ≤ 2000000) (h : Sl w a l) :
    Calls Try.prog 11 #[.slice a n c] w fun e w' => ∃ v : Int, e = .returned (.int .u8 v) ∧ Hid (KindIs l v) ∧ ∃ m, w' = w.drewN m := by
  have HR : Hid (Sl w a l) := h
  have HL : Hid (l.length = n) := hl
  clear h hl
  go_enter Try.func11, Try.ntmps11
  go_wp2_with fail
  refine (kindOf a n c l w HL.out hn HR.out).mono ?_
  rintro e wx ⟨v, rfl, hv, m, rfl⟩
  go_wp2
  go_ret
  exact ⟨_, rfl, hv, m, rfl⟩

set_option maxHeartbeats 1000000 in
theorem known (i : Nat) (hi : i < 12) (w : World) : Calls Try.prog 9 #[.int .i64 i] w fun e w' => e = .returned (.tuple #[.string (nm i), .int .u8 (kd i)]) ∧ w' = w := by
  have : i = 0 ∨ i = 1 ∨ i = 2 ∨ i = 3 ∨ i = 4 ∨ i = 5 ∨ i = 6 ∨ i = 7 ∨ i = 8 ∨ i = 9 ∨ i = 10 ∨ i = 11 := by omega
  clear hi
  rcases this with rfl | rfl | rfl | rfl | rfl | rfl | rfl | rfl | rfl | rfl | rfl | rfl
  all_goals
    go_enter Try.func9, Try.ntmps9
    go_wp2
    go_ret2
    exact ⟨rfl, rfl⟩
end Go.Proofs.Qxb6605477a.KindWalks
