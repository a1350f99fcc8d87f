/-
  number (16).
-/
import Derived.Test.Qxb6605418aNumWalks
import Derived.Maps.RangeWalk
import Derived.Deep.CutBlock
namespace Go.Proofs.Qxb6605418a.Number
open Go.RowKit Go.Proofs.Qxb6605418a.Aids Go.Proofs.Qxb6605418a.NumPlain Go.Proofs.Qxb6605418a.NumWalks
set_option linter.unusedVariables false

/-- what number answers, and where it leaves the compaction. -/
def NumAns (e : Ending) (w' : World) (Cb : Nat) (t : List Int) (i : Nat) : Prop := ∃ (r : Bool) (k : Nat), e = .returned (.bool r) ∧ Done t i r k ∧ w'.cell? ⟨Cb, 1, none⟩ = some (.int .i64 k)
theorem num_ans {w' : World} {Cb Bk n : Nat} {t : List Int} {i : Nat} {r : Bool} {k : Nat} (h : Done t i r k) (hs : St w' Cb Bk n t k) : NumAns (.returned (.bool r)) w' Cb t i := ⟨r, k, rfl, h, hs.at_⟩

theorem nope {p : Prop} (h : ¬ p) : Hid (false = true ↔ p) := (⟨fun e => absurd e (by decide), fun e => absurd e h⟩ : false = true ↔ p)
theorem yep {p : Prop} (h : p) : Hid (true = true ↔ p) := (⟨fun _ => h, fun _ => rfl⟩ : true = true ↔ p)
theorem below_set {Cb : Nat} {a w : World} {u : Value} (h : Below Cb a w) : Hid (Below Cb a (w.setCell ⟨Cb, 1, none⟩ u)) := Below.setCell h (Nat.le_refl _) u
theorem below_move {Cb m : Nat} {a w : World} {u : Value} (h : Below Cb a w) : Hid (Below Cb a ((w.drewN m).setCell ⟨Cb, 1, none⟩ u)) := Below.setCell (drew_below h) (Nat.le_refl _) u

set_option maxHeartbeats 8000000 in
set_option maxRecDepth 100000 in
theorem number (Cb Bk n i : Nat) (t : List Int) (w : World) (hl : t.length = n) (hn : n ≤ 1000000) (hi : i < n) (h : St w Cb Bk n t i) :
    Calls Try.prog 16 #[.pointer (some ⟨Cb, 0, none⟩)] w fun e w' => NumAns e w' Cb t i ∧ Below Cb w w' := by
  have HL : Hid (t.length = n) := hl
  have HS : Hid (St w Cb Bk n t i) := h
  clear hl h
  go_enter Try.func16, Try.ntmps16
  have ct := HS.out.text
  have ca := HS.out.at_
  have cj := HS.out.bytes i hi
  have hlt2 : (i : Int) < (n : Int) := by omega
  have HV : Hid (∀ v, v = t.getD i 0 → (v = 45 ↔ t.getD i 0 = 45)) := show ∀ v, _ from fun v e => by rw [e]
  obtain ⟨v, hv⟩ : ∃ v, v = t.getD i 0 := ⟨_, rfl⟩
  rw [← hv] at cj
  have HV2 : Hid (v = t.getD i 0) := hv
  clear hv HV
  go_wp2_with fail
  go_quiet (fail)
  clear ct ca cj
  go_upto_if 13 with fail
  go_cut [2] from 3 to 20 (fun s2 wx => s2 = .bool false ∧ ∃ k : Nat, k ≤ n ∧ Hid (A t i k) ∧ Hid (St wx Cb Bk n t k) ∧ Hid (Below Cb w wx))
  case first =>
    have ct := HS.out.text
    have ca := HS.out.at_
    have cf := HS.out.free
    by_cases hm : v = 45
    · have HA : Hid (A t i (i + 1)) := a_minus (by rw [HL.out]; exact hi) (by rw [← HV2.out]; exact hm)
      have hd : (v == 45) = true := beq_iff_eq.2 hm
      have HM : Hid (St ((w.drewN nq).setCell ⟨Cb, 1, none⟩ (.int .i64 ((i : Int) + 1))) Cb Bk n t (i + 1)) := HS.out.drew.move (i + 1)
      clear hm
      go_wp2_with fail
      go_meet
      case rel => exact ⟨rfl, i + 1, by omega, HA, HM, below_move (Below.refl _ _)⟩
    · have HA : Hid (A t i i) := a_none (by rw [HL.out]; exact hi) (by rw [← HV2.out]; exact hm)
      have hd : (v == 45) = false := by rw [beq_eq_false_iff_ne]; exact hm
      clear hm
      go_wp2_with fail
      go_meet
      case rel => exact ⟨rfl, i, by omega, HA, HS.out.drew, show Below _ _ _ from drew_below (Below.refl _ _)⟩
  case rest =>
    obtain ⟨rfl, k, hk, hA, hS, hB⟩ := hcut
    clear HS HV2 hlt2
    obtain ⟨w1, hw1⟩ : ∃ x, x = wc := ⟨_, rfl⟩
    subst hw1
    go_upto_block 0 with fail
    go_cut [2] from 21 to 55 (fun s2 wx => s2 = .bool false ∧ ∃ j : Nat, j ≤ n ∧ Hid (B t i j) ∧ Hid (St wx Cb Bk n t j) ∧ Hid (Below Cb w wx))
    case first =>
      go_upto_region 3 with fail
      go_cut [21] from 22 to 44 (fun s21 wx => ∃ b : Bool, s21 = .bool b ∧ Hid (b = true ↔ k < n ∧ t.getD k 0 = 48) ∧ ∃ m, wx = w1.drewN m)
      case first =>
        have ct := hS.out.text
        have ca := hS.out.at_
        by_cases hlt : k < n
        · have hlt2 : (k : Int) < (n : Int) := by omega
          have cj := hS.out.bytes k hlt
          have HI : Hid ((t.getD k 0 == 48) = true ↔ k < n ∧ t.getD k 0 = 48) := (⟨fun h => ⟨hlt, beq_iff_eq.1 h⟩, fun h => beq_iff_eq.2 h.2⟩ : _ ↔ _)
          generalize t.getD k 0 = u at *
          go_quiet (fail)
          go_wp2_with fail
          go_meet
          case rel => exact ⟨_, rfl, HI, _, rfl⟩
        · have hlt2 : decide ((k : Int) < (n : Int)) = false := decide_eq_false (by omega)
          have HI : Hid (false = true ↔ k < n ∧ t.getD k 0 = 48) := nope fun h => hlt h.1
          go_quiet (fail)
          go_wp2_with fail
          go_meet
          case rel => exact ⟨_, rfl, HI, _, rfl⟩
      case rest =>
        obtain ⟨b, rfl, hb, m, rfl⟩ := hcut
        have hS2 : Hid (St (w1.drewN m) Cb Bk n t k) := hS.out.drew
        have hB2 : Hid (Below Cb w (w1.drewN m)) := drew_below hB.out
        clear hS hB
        generalize w1.drewN m = w2 at *
        have ca := hS2.out.at_
        have cf := hS2.out.free
        cases b
        · have h48 : Hid (k < t.length → t.getD k 0 ≠ 48) := show _ → _ from fun h e => absurd (hb.out.2 ⟨by rw [← HL.out]; exact h, e⟩) (by decide)
          clear ca cf hb
          go_wp2_with fail
          refine (digits Cb Bk n k t w2 hn hk hS2.out).mono ?_
          rintro e w3 ⟨⟨j, hkj, hjn, hall, hend, hS3, rfl⟩, hb3⟩
          have HS3 : Hid (St w3 Cb Bk n t j) := hS3
          have HB3 : Hid (Below Cb w w3) := hB2.out.trans hb3
          clear hb3 hS3 hS2 hB2
          by_cases hlt : k < j
          · have HB4 : Hid (B t i j) := b_digits hA.out h48.out hlt (by rw [HL.out]; exact hjn) hall (by rw [HL.out]; exact hend)
            have hdt : decide (k < j) = true := decide_eq_true hlt
            rw [hdt]
            clear hall hend hdt
            go_wp2_with fail
            go_meet
            case rel => exact ⟨rfl, j, hjn, HB4, HS3, HB3⟩
          · obtain rfl : k = j := by omega
            have HD : Hid (Done t i false k) := b_fail hA.out h48.out (by rw [HL.out]; exact hend)
            have hdt : decide (k < k) = false := decide_eq_false hlt
            rw [hdt]
            clear hall hend hdt
            go_wp2_with fail
            go_ret
            exact ⟨num_ans HD.out HS3.out, HB3.out⟩
        · have hkn : k < n := (hb.out.1 rfl).1
          have HB4 : Hid (B t i (k + 1)) := b_zero hA.out (by rw [HL.out]; exact hkn) (hb.out.1 rfl).2
          have HM : Hid (St (w2.setCell ⟨Cb, 1, none⟩ (.int .i64 ((k : Int) + 1))) Cb Bk n t (k + 1)) := hS2.out.move (k + 1)
          clear hb
          go_wp2_with fail
          go_meet
          case rel => exact ⟨rfl, k + 1, by omega, HB4, HM, below_set hB2.out⟩
    case rest =>
      clear hA hS hB
      clear hk
      obtain ⟨rfl, k, hk, hBB, hS, hB⟩ := hcut
      obtain ⟨w2, hw2⟩ : ∃ x, x = wc := ⟨_, rfl⟩
      subst hw2
      go_upto_region 7 with fail
      go_cut [78] from 56 to 77 (fun s78 wx => ∃ b : Bool, s78 = .bool b ∧ Hid (b = true ↔ k < n ∧ t.getD k 0 = 46) ∧ ∃ m, wx = w2.drewN m)
      case first =>
        have ct := hS.out.text
        have ca := hS.out.at_
        by_cases hlt : k < n
        · have hlt2 : (k : Int) < (n : Int) := by omega
          have cj := hS.out.bytes k hlt
          have HI : Hid ((t.getD k 0 == 46) = true ↔ k < n ∧ t.getD k 0 = 46) := (⟨fun h => ⟨hlt, beq_iff_eq.1 h⟩, fun h => beq_iff_eq.2 h.2⟩ : _ ↔ _)
          generalize t.getD k 0 = u at *
          go_quiet (fail)
          go_wp2_with fail
          go_meet
          case rel => exact ⟨_, rfl, HI, _, rfl⟩
        · have hlt2 : decide ((k : Int) < (n : Int)) = false := decide_eq_false (by omega)
          have HI : Hid (false = true ↔ k < n ∧ t.getD k 0 = 46) := nope fun h => hlt h.1
          go_quiet (fail)
          go_wp2_with fail
          go_meet
          case rel => exact ⟨_, rfl, HI, _, rfl⟩
      case rest =>
        obtain ⟨b, rfl, hb, m, rfl⟩ := hcut
        have hS2 : Hid (St (w2.drewN m) Cb Bk n t k) := hS.out.drew
        have hB2 : Hid (Below Cb w (w2.drewN m)) := drew_below hB.out
        clear hS hB
        generalize w2.drewN m = w3 at *
        go_upto_if 78 with fail
        go_cut [2] from 56 to 88 (fun s2 wx => s2 = .bool false ∧ ∃ j : Nat, j ≤ n ∧ Hid (NumPlain.C t i j) ∧ Hid (St wx Cb Bk n t j) ∧ Hid (Below Cb w wx))
        case first =>
          have ca := hS2.out.at_
          have cf := hS2.out.free
          cases b
          · have HC : Hid (NumPlain.C t i k) := c_none hBB.out (fun h e => absurd (hb.out.2 ⟨by rw [← HL.out]; exact h, e⟩) (by decide))
            clear hb
            go_wp2_with fail
            go_meet
            case rel => exact ⟨rfl, k, hk, HC, hS2, hB2⟩
          · have hkn : k < n := (hb.out.1 rfl).1
            have HR : Hid (NumRun t i 4 (k + 1)) := dot hBB.out (by rw [HL.out]; exact hkn) (hb.out.1 rfl).2
            have HM : Hid (St (w3.setCell ⟨Cb, 1, none⟩ (.int .i64 ((k : Int) + 1))) Cb Bk n t (k + 1)) := hS2.out.move (k + 1)
            have HBm : Hid (Below Cb w (w3.setCell ⟨Cb, 1, none⟩ (.int .i64 ((k : Int) + 1)))) := below_set hB2.out
            clear hb
            go_wp2_with fail
            refine (digits Cb Bk n (k + 1) t _ hn (by omega) HM.out).mono ?_
            rintro e w4 ⟨⟨j, hkj, hjn, hall, hend, hS4, rfl⟩, hb4⟩
            have HS4 : Hid (St w4 Cb Bk n t j) := hS4
            have HB4 : Hid (Below Cb w w4) := HBm.out.trans hb4
            clear hb4 hS4 hS2 hB2 HM HBm ca cf
            by_cases hlt : k + 1 < j
            · have HC : Hid (NumPlain.C t i j) := c_digits HR.out hlt (by rw [HL.out]; exact hjn) hall (by rw [HL.out]; exact hend)
              have hdt : decide (k + 1 < j) = true := decide_eq_true hlt
              rw [hdt]
              clear hall hend hdt
              go_wp2_with fail
              go_meet
              case rel => exact ⟨rfl, j, hjn, HC, HS4, HB4⟩
            · obtain rfl : k + 1 = j := by omega
              have HD : Hid (Done t i false (k + 1)) := c_fail HR.out (by rw [HL.out]; exact hjn) (by rw [HL.out]; exact hend)
              have hdt : decide (k + 1 < k + 1) = false := decide_eq_false hlt
              rw [hdt]
              clear hall hend hdt
              go_wp2_with fail
              go_ret
              exact ⟨num_ans HD.out HS4.out, HB4.out⟩
        case rest =>
          clear hBB hS2 hB2 hb hk
          obtain ⟨rfl, k, hk, hC, hS, hB⟩ := hcut
          obtain ⟨w4, hw4⟩ : ∃ x, x = wc := ⟨_, rfl⟩
          subst hw4
          go_upto_region 11 with fail
          go_cut [124] from 89 to 123 (fun s wx => ∃ b : Bool, s = .bool b ∧ Hid (b = true ↔ k < n ∧ (t.getD (k) 0 = 101 ∨ t.getD (k) 0 = 69)) ∧ ∃ m, wx = w4.drewN m)
          case first =>
            have ct := hS.out.text
            have ca := hS.out.at_
            by_cases hlt : k < n
            · have hlt2 : (k : Int) < (n : Int) := by omega
              have cj := hS.out.bytes (k) hlt
              by_cases h1 : t.getD (k) 0 = 101
              · have HI : Hid (k < n ∧ (t.getD (k) 0 = 101 ∨ t.getD (k) 0 = 69)) := (⟨hlt, .inl h1⟩ : _ ∧ _)
                rw [h1] at cj
                clear h1
                go_quiet (fail)
                go_wp2_with fail
                go_meet
                case rel => exact ⟨true, rfl, yep HI.out, _, rfl⟩
              · have HI : Hid ((t.getD (k) 0 == 69) = true ↔ k < n ∧ (t.getD (k) 0 = 101 ∨ t.getD (k) 0 = 69)) := (⟨fun h => ⟨hlt, .inr (beq_iff_eq.1 h)⟩, fun h => beq_iff_eq.2 (h.2.resolve_left h1)⟩ : _ ↔ _)
                have hd : (t.getD (k) 0 == 101) = false := beq_eq_false_iff_ne.2 h1
                clear h1
                generalize t.getD (k) 0 = u at *
                go_quiet (fail)
                go_wp2_with fail
                go_meet
                case rel => exact ⟨_, rfl, HI, _, rfl⟩
            · have hlt2 : decide ((k : Int) < (n : Int)) = false := decide_eq_false (by omega)
              have HI : Hid (false = true ↔ k < n ∧ (t.getD (k) 0 = 101 ∨ t.getD (k) 0 = 69)) := nope fun h => hlt h.1
              go_quiet (fail)
              go_wp2_with fail
              go_meet
              case rel => exact ⟨_, rfl, HI, _, rfl⟩
          case rest =>
            obtain ⟨b, rfl, hb, m, rfl⟩ := hcut
            have hS2 : Hid (St (w4.drewN m) Cb Bk n t k) := hS.out.drew
            have hB2 : Hid (Below Cb w (w4.drewN m)) := drew_below hB.out
            clear hS hB
            generalize w4.drewN m = w5 at *
            cases b
            · have HD : Hid (Done t i true k) := d_done hC.out (fun h e => absurd (hb.out.2 ⟨by rw [← HL.out]; exact h, e⟩) (by decide))
              clear hb
              go_wp2_with fail
              go_ret
              exact ⟨num_ans HD.out hS2.out, hB2.out⟩
            · have hkn : k < n := (hb.out.1 rfl).1
              have HR : Hid (NumRun t i 6 (k + 1)) := NumPlain.mark hC.out (by rw [HL.out]; exact hkn) (hb.out.1 rfl).2
              have ca := hS2.out.at_
              have cf := hS2.out.free
              have hS : Hid (St (w5.setCell ⟨Cb, 1, none⟩ (.int .i64 ((k : Int) + 1))) Cb Bk n t (k + 1)) := hS2.out.move (k + 1)
              have hB : Hid (Below Cb w (w5.setCell ⟨Cb, 1, none⟩ (.int .i64 ((k : Int) + 1)))) := below_set hB2.out
              clear hb
              go_upto_region 13 with fail
              clear ca cf hS2 hB2
              generalize w5.setCell ⟨Cb, 1, none⟩ (.int .i64 ((k : Int) + 1)) = w6 at *
              go_cut [167] from 132 to 166 (fun s wx => ∃ b : Bool, s = .bool b ∧ Hid (b = true ↔ k + 1 < n ∧ (t.getD (k + 1) 0 = 43 ∨ t.getD (k + 1) 0 = 45)) ∧ ∃ m, wx = w6.drewN m)
              case first =>
                have ct := hS.out.text
                have ca := hS.out.at_
                by_cases hlt : k + 1 < n
                · have hlt2 : ((k : Int) + 1) < (n : Int) := by omega
                  have cj := hS.out.bytes (k + 1) hlt
                  by_cases h1 : t.getD (k + 1) 0 = 43
                  · have HI : Hid (k + 1 < n ∧ (t.getD (k + 1) 0 = 43 ∨ t.getD (k + 1) 0 = 45)) := (⟨hlt, .inl h1⟩ : _ ∧ _)
                    rw [h1] at cj
                    clear h1
                    go_quiet (fail)
                    go_wp2_with fail
                    go_meet
                    case rel => exact ⟨true, rfl, yep HI.out, _, rfl⟩
                  · have HI : Hid ((t.getD (k + 1) 0 == 45) = true ↔ k + 1 < n ∧ (t.getD (k + 1) 0 = 43 ∨ t.getD (k + 1) 0 = 45)) := (⟨fun h => ⟨hlt, .inr (beq_iff_eq.1 h)⟩, fun h => beq_iff_eq.2 (h.2.resolve_left h1)⟩ : _ ↔ _)
                    have hd : (t.getD (k + 1) 0 == 43) = false := beq_eq_false_iff_ne.2 h1
                    clear h1
                    generalize t.getD (k + 1) 0 = u at *
                    go_quiet (fail)
                    go_wp2_with fail
                    go_meet
                    case rel => exact ⟨_, rfl, HI, _, rfl⟩
                · have hlt2 : decide (((k : Int) + 1) < (n : Int)) = false := decide_eq_false (by omega)
                  have HI : Hid (false = true ↔ k + 1 < n ∧ (t.getD (k + 1) 0 = 43 ∨ t.getD (k + 1) 0 = 45)) := nope fun h => hlt h.1
                  go_quiet (fail)
                  go_wp2_with fail
                  go_meet
                  case rel => exact ⟨_, rfl, HI, _, rfl⟩
              case rest =>
                obtain ⟨b, rfl, hb, m2, rfl⟩ := hcut
                have hS2 : Hid (St (w6.drewN m2) Cb Bk n t (k + 1)) := hS.out.drew
                have hB2 : Hid (Below Cb w (w6.drewN m2)) := drew_below hB.out
                clear hS hB
                generalize w6.drewN m2 = w7 at *
                go_upto_if 167 with fail
                go_cut [2] from 125 to 174 (fun s2 wx => s2 = .bool false ∧ ∃ j : Nat, j ≤ n ∧ Hid (D t i j) ∧ Hid (St wx Cb Bk n t j) ∧ Hid (Below Cb w wx))
                case first =>
                  have ca : w7.cell? ⟨Cb, 1, none⟩ = some (.int .i64 ((k : Int) + 1)) := hS2.out.at_
                  have cf := hS2.out.free
                  cases b
                  · have HD : Hid (D t i (k + 1)) := d_none HR.out (by rw [HL.out]; exact hkn) (fun h e => absurd (hb.out.2 ⟨by rw [← HL.out]; exact h, e⟩) (by decide))
                    clear hb
                    go_wp2_with fail
                    go_meet
                    case rel => exact ⟨rfl, k + 1, hkn, HD, hS2, hB2⟩
                  · have hkn2 : k + 1 < n := (hb.out.1 rfl).1
                    have HD : Hid (D t i (k + 1 + 1)) := d_sign HR.out (by rw [HL.out]; exact hkn2) (hb.out.1 rfl).2
                    have HM : Hid (St (w7.setCell ⟨Cb, 1, none⟩ (.int .i64 ((k : Int) + 2))) Cb Bk n t (k + 1 + 1)) := hS2.out.move (k + 1 + 1)
                    clear hb
                    go_wp2_with fail
                    go_meet
                    case rel => exact ⟨rfl, k + 1 + 1, by omega, HD, HM, below_set hB2.out⟩
                case rest =>
                  clear hS2 hB2 hb HR hC
                  obtain ⟨rfl, k, hk, hD, hS, hB⟩ := hcut
                  obtain ⟨w8, hw8⟩ : ∃ x, x = wc := ⟨_, rfl⟩
                  subst hw8
                  go_wp2_with fail
                  refine (digits Cb Bk n k t w8 hn hk hS.out).mono ?_
                  rintro e w9 ⟨⟨j, hkj, hjn, hall, hend, hS9, rfl⟩, hb9⟩
                  have HS9 : Hid (St w9 Cb Bk n t j) := hS9
                  have HB9 : Hid (Below Cb w w9) := hB.out.trans hb9
                  clear hb9 hS9 hS hB
                  by_cases hlt : k < j
                  · have HD : Hid (Done t i true j) := e_digits hD.out hlt (by rw [HL.out]; exact hjn) hall (by rw [HL.out]; exact hend)
                    have hdt : decide (k < j) = true := decide_eq_true hlt
                    rw [hdt]
                    clear hall hend hdt
                    go_wp2_with fail
                    go_ret
                    exact ⟨num_ans HD.out HS9.out, HB9.out⟩
                  · obtain rfl : k = j := by omega
                    have HD : Hid (Done t i false k) := e_fail hD.out (by rw [HL.out]; exact hend)
                    have hdt : decide (k < k) = false := decide_eq_false hlt
                    rw [hdt]
                    clear hall hend hdt
                    go_wp2_with fail
                    go_ret
                    exact ⟨num_ans HD.out HS9.out, HB9.out⟩
end Go.Proofs.Qxb6605418a.Number
