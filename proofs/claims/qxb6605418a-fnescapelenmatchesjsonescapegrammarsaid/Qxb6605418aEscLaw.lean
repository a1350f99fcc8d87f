/-
  escapeLen (19), its model (12) at long texts, FnEscapeLenMatchesJSONEscapeGrammar (4).
-/
import Derived.Test.Qxb6605418aEscWalks
namespace Go.Proofs.Qxb6605418a.EscLaw
open Go.RowKit Go.Proofs.Qxb6605418a.Aids Go.Proofs.Qxb6605418a.EscWalks
set_option linter.unusedVariables false

theorem six_said {l : List Int} {n : Nat} (hl : l.length = n) (hn : 6 ≤ n) : (l.getD (1 + 0) 0 = 117 ∧ ∀ j, 1 ≤ j → j < 5 → Hex (l.getD (1 + j) 0)) ↔ (6 ≤ l.length ∧ l.getD 1 0 = 117 ∧ ∀ j, 2 ≤ j → j < 6 → Hex (l.getD j 0)) := by
  constructor
  · rintro ⟨h1, h2⟩
    refine ⟨by omega, h1, fun j hj1 hj2 => ?_⟩
    have := h2 (j - 1) (by omega) (by omega)
    rwa [show 1 + (j - 1) = j from by omega] at this
  · rintro ⟨_, h1, h2⟩
    exact ⟨h1, fun j hj1 hj2 => h2 (1 + j) (by omega) (by omega)⟩

set_option maxHeartbeats 1000000 in
theorem model_long (B n c : Nat) (l : List Int) (w : World) (hl : l.length = n) (hn6 : 6 ≤ n) (hnc : n ≤ c) (hc : Cells w B l) (hby : Bytes l) :
    Calls Try.prog 12 #[.slice (some ⟨B, 0, none⟩) n c] w fun e w' => Esc e l ∧ w' = w := by
  have h6 : (6 : Int) ≤ (n : Int) := by omega
  have h2 : (2 : Int) ≤ (n : Int) := by omega
  have c1 := hc.cell 1 (by omega)
  have HC : Hid (Cells w B l) := hc
  have HL : Hid (l.length = n) := hl
  have HB : Hid (Bytes l) := hby
  clear hl hc hby
  go_enter Try.func12, Try.ntmps12
  go_wp2_with fail
  refine (name5 B _ (fun j => l.getD (1 + j) 0) w (fun j hj => HC.out.cell (1 + j) (by have := HL.out; omega)) (fun j => HB.out (1 + j))).mono ?_
  rintro e wx ⟨⟨r, rfl, hr⟩, hwx⟩
  have hwx' := hwx.symm
  subst hwx'
  clear hwx
  have hr' := hr.trans (six_said HL.out hn6)
  clear hr
  cases r
  · have H6 : Hid (¬ (6 ≤ l.length ∧ l.getD 1 0 = 117 ∧ ∀ j, 2 ≤ j → j < 6 → Hex (l.getD j 0))) := show ¬ _ from fun h => absurd (hr'.2 h) (by decide)
    clear hr'
    go_wp2_with fail
    refine (name1 B _ (fun _ => l.getD 1 0) w c1).mono ?_
    rintro e wx ⟨⟨r, rfl, hr⟩, hwx⟩
    have hwx' := hwx.symm
    subst hwx'
    clear hwx
    cases r
    · have H2 : Hid (¬ (2 ≤ l.length ∧ Short (l.getD 1 0))) := show ¬ _ from fun h => absurd (hr.2 h.2) (by decide)
      clear hr
      go_wp2_with fail
      go_ret
      exact ⟨esc_none H6.out H2.out, rfl⟩
    · have H2 : Hid (2 ≤ l.length ∧ Short (l.getD 1 0)) := (⟨by rw [HL.out]; omega, hr.1 rfl⟩ : _ ∧ _)
      clear hr
      go_wp2_with fail
      go_ret
      exact ⟨esc_two H2.out, rfl⟩
  · have H6 : Hid (6 ≤ l.length ∧ l.getD 1 0 = 117 ∧ ∀ j, 2 ≤ j → j < 6 → Hex (l.getD j 0)) := hr'.1 rfl
    clear hr'
    go_wp2_with fail
    go_ret
    exact ⟨esc_six H6.out, rfl⟩

theorem model (a : Option Addr) (lo hi n : Nat) (l : List Int) (w : World) (hl : l.length = n) (h : Sl w lo hi a l) (hby : Bytes l) :
    Calls Try.prog 12 #[.slice a n n] w fun e w' => Esc e l ∧ w' = w := by
  by_cases h2 : n < 2
  · exact model_short a n n l w hl h2
  · obtain ⟨B, rfl, _, _, hc⟩ := h (by omega)
    by_cases h6 : n < 6
    · exact model_mid B n n l w hl (by omega) h6 (Nat.le_refl _) hc
    · exact model_long B n n l w hl (by omega) (Nat.le_refl _) hc hby

set_option maxHeartbeats 1000000 in
theorem len_short (a : Option Addr) (n c : Nat) (l : List Int) (w : World) (hl : l.length = n) (hn : n < 2) :
    Calls Try.prog 19 #[.slice a n c] w fun e w' => Esc e l ∧ w' = w := by
  have H : Hid (Esc (.returned (.int .i64 0)) l) := esc_none (fun h => by omega) (fun h => by omega)
  have d2 : ((n : Int) < 2) := by omega
  clear hl hn
  go_enter Try.func19, Try.ntmps19
  go_wp2
  go_ret
  exact ⟨H.out, rfl⟩

set_option maxHeartbeats 2000000 in
theorem len_two (B n c : Nat) (l : List Int) (w : World) (hl : l.length = n) (hn : 2 ≤ n) (hc : Cells w B l) (hs : Short (l.getD 1 0)) :
    Calls Try.prog 19 #[.slice (some ⟨B, 0, none⟩) n c] w fun e w' => Esc e l ∧ w' = w := by
  have H : Hid (Esc (.returned (.int .i64 2)) l) := esc_two ⟨by omega, hs⟩
  have c1 := hc.cell 1 (by omega)
  have h2 : (2 : Int) ≤ (n : Int) := by omega
  have h1 : (1 : Int) < (n : Int) := by omega
  clear hl hc
  rcases hs with e | e | e | e | e | e | e | e
  all_goals
    rw [e] at c1
    clear e
    go_enter Try.func19, Try.ntmps19
    go_wp2
    go_ret
    exact ⟨H.out, rfl⟩

set_option maxHeartbeats 2000000 in
theorem len_other (B n c : Nat) (l : List Int) (w : World) (hl : l.length = n) (hn : 2 ≤ n) (hc : Cells w B l) (hs : ¬ Short (l.getD 1 0)) (hu : ¬ l.getD 1 0 = 117) :
    Calls Try.prog 19 #[.slice (some ⟨B, 0, none⟩) n c] w fun e w' => Esc e l ∧ w' = w := by
  have H : Hid (Esc (.returned (.int .i64 0)) l) := esc_none (fun h => hu h.2.1) (fun h => hs h.2)
  have c1 := hc.cell 1 (by omega)
  have h2 : (2 : Int) ≤ (n : Int) := by omega
  have h1 : (1 : Int) < (n : Int) := by omega
  generalize l.getD 1 0 = x at *
  have t1 : (x == 34) = false := beq_eq_false_iff_ne.2 (fun e => hs (by unfold Short; omega))
  have t2 : (x == 92) = false := beq_eq_false_iff_ne.2 (fun e => hs (by unfold Short; omega))
  have t3 : (x == 47) = false := beq_eq_false_iff_ne.2 (fun e => hs (by unfold Short; omega))
  have t4 : (x == 98) = false := beq_eq_false_iff_ne.2 (fun e => hs (by unfold Short; omega))
  have t5 : (x == 102) = false := beq_eq_false_iff_ne.2 (fun e => hs (by unfold Short; omega))
  have t6 : (x == 110) = false := beq_eq_false_iff_ne.2 (fun e => hs (by unfold Short; omega))
  have t7 : (x == 114) = false := beq_eq_false_iff_ne.2 (fun e => hs (by unfold Short; omega))
  have t8 : (x == 116) = false := beq_eq_false_iff_ne.2 (fun e => hs (by unfold Short; omega))
  have t9 : (x == 117) = false := beq_eq_false_iff_ne.2 hu
  clear hl hc hs hu
  go_enter Try.func19, Try.ntmps19
  go_wp2
  go_ret
  exact ⟨H.out, rfl⟩

set_option maxHeartbeats 2000000 in
theorem len_u (B n c : Nat) (l : List Int) (w : World) (hl : l.length = n) (hn : 2 ≤ n) (hnc : n ≤ c) (hc : Cells w B l) (hu : l.getD 1 0 = 117) :
    Calls Try.prog 19 #[.slice (some ⟨B, 0, none⟩) n c] w fun e w' => Esc e l ∧ w' = w := by
  have c1 := hc.cell 1 (by omega)
  rw [hu] at c1
  have HU : Hid (l.getD 1 0 = 117) := hu
  have h2 : (2 : Int) ≤ (n : Int) := by omega
  have h1 : (1 : Int) < (n : Int) := by omega
  have H2 : Hid (¬ (2 ≤ l.length ∧ Short (l.getD 1 0))) := show ¬ _ from fun h => by have := h.2; rw [hu] at this; unfold Short at this; omega
  have HL : Hid (l.length = n) := hl
  have HC : Hid (Cells w B l) := hc
  clear hl hc hu
  by_cases h6 : n < 6
  · have H6 : Hid (¬ (6 ≤ l.length ∧ l.getD 1 0 = 117 ∧ ∀ j, 2 ≤ j → j < 6 → Hex (l.getD j 0))) := show ¬ _ from fun h => by have := HL.out; omega
    have h6' : ((n : Int) < 6) := by omega
    go_enter Try.func19, Try.ntmps19
    go_wp2
    go_ret
    exact ⟨esc_none H6.out H2.out, rfl⟩
  · have h6' : (6 : Int) ≤ (n : Int) := by omega
    go_enter Try.func19, Try.ntmps19
    go_wp2_with fail
    go_loop [28] (fun d => ∃ k : Nat, k ≤ 4 ∧ d = .int .i64 k ∧ Hid (∀ j, 2 ≤ j → j < 2 + k → Hex (l.getD j 0))) (fun d => 4 - (intOf d).toNat)
    case atStart => exact ⟨0, by omega, rfl, show ∀ j, 2 ≤ j → j < 2 + 0 → _ from fun j h1 hj => absurd hj (by omega)⟩
    case round =>
      obtain ⟨k, hk, rfl, hall⟩ := hrel
      by_cases hlt : k < 4
      · have hck := HC.out.cell (2 + k) (by have := HL.out; omega)
        have hlt2 : (k : Int) < 4 := by omega
        go_wp2_with fail
        refine (isHex _ w).mono ?_
        rintro e wx ⟨⟨r, rfl, hr⟩, hwx⟩
        have hwx' := hwx.symm
        subst hwx'
        clear hwx
        cases r
        · have H6 : Hid (¬ (6 ≤ l.length ∧ l.getD 1 0 = 117 ∧ ∀ j, 2 ≤ j → j < 6 → Hex (l.getD j 0))) := show ¬ _ from fun h => absurd (hr.2 (h.2.2 (2 + k) (by omega) (by omega))) (by decide)
          clear hr hall
          go_wp2_with fail
          go_ret
          exact ⟨esc_none H6.out H2.out, rfl⟩
        · have HE : Hid (∀ j, 2 ≤ j → j < 2 + (k + 1) → Hex (l.getD j 0)) := show ∀ j, _ from fun j h1 hj => by
            by_cases e : j = 2 + k
            · subst e; exact hr.1 rfl
            · exact hall.out j h1 (by omega)
          clear hr hall
          go_wp2_with fail
          go_round
          case rel => exact ⟨k + 1, by omega, by go_num, HE⟩
          case measure => simp [intOf]; omega
      · have H6 : Hid (6 ≤ l.length ∧ l.getD 1 0 = 117 ∧ ∀ j, 2 ≤ j → j < 6 → Hex (l.getD j 0)) := (⟨by have := HL.out; omega, HU.out, fun j h1 hj => hall.out j h1 (by omega)⟩ : _ ∧ _ ∧ _)
        clear hall
        go_wp2_with fail
        go_ret
        exact ⟨esc_six H6.out, rfl⟩

theorem escLen (a : Option Addr) (lo hi n : Nat) (l : List Int) (w : World) (hl : l.length = n) (h : Sl w lo hi a l) :
    Calls Try.prog 19 #[.slice a n n] w fun e w' => Esc e l ∧ w' = w := by
  by_cases h2 : n < 2
  · exact len_short a n n l w hl h2
  · obtain ⟨B, rfl, _, _, hc⟩ := h (by omega)
    by_cases hu : l.getD 1 0 = 117
    · exact len_u B n n l w hl (by omega) (Nat.le_refl _) hc hu
    · by_cases hs : Short (l.getD 1 0)
      · exact len_two B n n l w hl (by omega) hc hs
      · exact len_other B n n l w hl (by omega) hc hs hu

set_option maxHeartbeats 1000000 in
theorem zzEscLen (a : Option Addr) (lo hi n : Nat) (l : List Int) (w : World) (hl : l.length = n) (h : Sl w lo hi a l) :
    Calls Try.prog 11 #[.slice a n n] w fun e w' => Esc e l ∧ w' = w := by
  have HS : Hid (Sl w lo hi a l) := h
  have HL : Hid (l.length = n) := hl
  clear h hl
  go_enter Try.func11, Try.ntmps11
  go_wp2_with fail
  refine (escLen a lo hi n l w HL.out HS.out).mono ?_
  rintro e wx ⟨⟨v, rfl, hv⟩, hwx⟩
  have hwx' := hwx.symm
  subst hwx'
  clear hwx
  have HV : Hid (Esc (.returned (.int .i64 v)) l) := (⟨v, rfl, hv⟩ : Esc _ _)
  clear hv
  go_wp2_with fail
  go_ret
  exact ⟨HV.out, rfl⟩

set_option maxHeartbeats 1000000 in
theorem bytes_yes (a0 : Option Addr) (n0 c0 : Nat) (w : World) (h : n0 ≤ 1048576) :
    Calls Try.prog 10 #[.slice a0 n0 c0] w fun e w' => e = .returned (.bool true) ∧ w' = w := by
  go_enter Try.func10, Try.ntmps10
  go_wp2
  go_ret
  exact ⟨rfl, rfl⟩

set_option maxHeartbeats 1000000 in
theorem bytes_no (a0 : Option Addr) (n0 c0 : Nat) (w : World) (h0 : n0 ≤ 9223372036854775807) (h : ¬ n0 ≤ 1048576) :
    Calls Try.prog 10 #[.slice a0 n0 c0] w fun e w' => e = .returned (.bool false) ∧ w' = w := by
  go_enter Try.func10, Try.ntmps10
  go_wp2
  go_ret
  exact ⟨rfl, rfl⟩

set_option maxHeartbeats 2000000 in
theorem law (a0 : Option Addr) (n c0 : Nat) (z0 : List Int) (w : World) (w0 : IsRow .u8 w a0 n c0 z0) :
    Calls Try.prog 4 #[.slice a0 n c0] w fun e w' => e = .returned (.bool true) ∧ Below w.heap.size w w' := by
  have hmax := w0.len
  by_cases hn : n ≤ 1048576
  · have W0 : Hid (IsRow .u8 w a0 n c0 z0) := w0
    have HB : Hid (Bytes (z0.take n)) := w0.bytes
    clear w0
    go_enter Try.func4, Try.ntmps4
    go_wp2_with fail
    refine (bytes_yes _ _ _ _ hn).mono ?_
    rintro e wx ⟨rfl, hwx⟩
    have hwx' := hwx.symm
    subst hwx'
    clear hwx
    go_wp2_with fail
    refine (clone_any a0 n c0 z0 w W0.out (by omega)).mono ?_
    rintro e w1 ⟨ao, rfl, ow, hl0, hb1⟩
    generalize z0.take n = L at *
    have OW : Hid (Sl w1 w.heap.size w1.heap.size ao L) := ow
    have HB1 : Hid (Below w.heap.size w w1) := hb1
    clear W0 ow hb1
    go_wp2_with fail
    refine (zzEscLen ao _ _ n L w1 hl0.out OW.out).mono ?_
    rintro e wx ⟨⟨v, rfl, hv⟩, hwx⟩
    have hwx' := hwx.symm
    subst hwx'
    clear hwx
    have HV : Hid (EscIs L v) := hv
    clear hv
    go_wp2_with fail
    refine (model ao _ _ n L w1 hl0.out OW.out HB.out).mono ?_
    rintro e wx ⟨⟨v2, rfl, hv2⟩, hwx⟩
    have hwx' := hwx.symm
    subst hwx'
    clear hwx
    obtain rfl : v2 = v := esc_one hv2 HV.out
    clear hv2 HV
    go_wp2_with fail
    go_ret
    exact ⟨rfl, HB1.out⟩
  · clear w0
    go_enter Try.func4, Try.ntmps4
    go_wp2_with fail
    refine (bytes_no _ _ _ _ hmax hn).mono ?_
    rintro e wx ⟨rfl, hwx⟩
    have hwx' := hwx.symm
    subst hwx'
    clear hwx
    go_wp2_with fail
    go_ret
    exact ⟨rfl, Below.refl _ _⟩
end Go.Proofs.Qxb6605418a.EscLaw
