/-
  The number law's own model (17, 18, 9) and digits (22).
-/
import Derived.Test.Qxb6605418aAids
import Derived.Test.Qxb6605418aNumPlain
import Derived.Deep.QuietTactic
import Derived.BigQuiet
import Derived.Outline
namespace Go.Proofs.Qxb6605418a.NumWalks
open Go.RowKit Go.Proofs.Qxb6605418a.Aids Go.Proofs.Qxb6605418a.NumPlain
set_option linter.unusedVariables false

set_option maxHeartbeats 4000000 in
theorem next (s : Nat) (hs : s ≤ 8) (b : Int) (w : World) : Calls Try.prog 17 #[.int .i64 s, .int .u8 b] w fun e w' => e = .returned (.int .i64 (enc (nx s b))) ∧ w' = w := by
  have h9 : s = 0 ∨ s = 1 ∨ s = 2 ∨ s = 3 ∨ s = 4 ∨ s = 5 ∨ s = 6 ∨ s = 7 ∨ s = 8 := by omega
  clear hs
  rcases h9 with rfl | rfl | rfl | rfl | rfl | rfl | rfl | rfl | rfl
  all_goals
    go_enter Try.func17, Try.ntmps17
    go_wp2_with (first | (go_at_call 23; go_in) | (go_at_call 24; go_in))
    all_goals
      go_ret
      refine ⟨?_, rfl⟩
      simp_all [nx, enc]
  all_goals
    repeat' split
    all_goals first | rfl | (exfalso; omega) | (simp_all <;> omega)

set_option maxHeartbeats 1000000 in
theorem accepts (s : Nat) (hs : s ≤ 8) (w : World) : Calls Try.prog 18 #[.int .i64 s] w fun e w' => e = .returned (.bool (acc s)) ∧ w' = w := by
  have h9 : s = 0 ∨ s = 1 ∨ s = 2 ∨ s = 3 ∨ s = 4 ∨ s = 5 ∨ s = 6 ∨ s = 7 ∨ s = 8 := by omega
  clear hs
  rcases h9 with rfl | rfl | rfl | rfl | rfl | rfl | rfl | rfl | rfl
  all_goals
    go_enter Try.func18, Try.ntmps18
    go_wp2
    go_ret
    exact ⟨rfl, rfl⟩

/-- what a number's reading answers. -/
def Ans (e : Ending) (t : List Int) (i : Nat) : Prop := ∃ (r : Bool) (j : Nat), e = .returned (.tuple #[.bool r, .int .i64 j]) ∧ Done t i r j
theorem ans {t : List Int} {i : Nat} {r : Bool} {j : Nat} (h : Done t i r j) : Ans (.returned (.tuple #[.bool r, .int .i64 j])) t i := ⟨r, j, rfl, h⟩

set_option maxHeartbeats 2000000 in
theorem model (Bk n c i : Nat) (t : List Int) (w : World) (hl : t.length = n) (hn : n ≤ 1000000) (hi : i < n) (hc : Cells w Bk t) :
    Calls Try.prog 9 #[.slice (some ⟨Bk, 0, none⟩) n c, .int .i64 i] w fun e w' => Ans e t i ∧ w' = w := by
  have HL : Hid (t.length = n) := hl
  have HC : Hid (Cells w Bk t) := hc
  clear hl hc
  go_enter Try.func9, Try.ntmps9
  go_wp2_with fail
  go_loopw [6, 7] (fun d6 d7 wr => ∃ s j : Nat, s ≤ 8 ∧ j ≤ n ∧ d6 = .int .i64 s ∧ d7 = .int .i64 j ∧ wr = w ∧ Hid (NumRun t i s j)) (fun _ d _ => n - (intOf d).toNat)
  case atStart => exact ⟨0, i, by omega, by omega, rfl, rfl, rfl, (NumRun.start : NumRun t i 0 i)⟩
  case round =>
    obtain ⟨s, j, hs, hj, rfl, rfl, hwr, hst⟩ := hrel
    have hwr' := hwr.symm
    subst hwr'
    clear hwr
    by_cases hlt : j < n
    · have hlt2 : (j : Int) < (n : Int) := by omega
      have hcj := HC.out.cell j (by have := HL.out; omega)
      go_wp2_with fail
      refine (next s hs (t.getD j 0) w).mono ?_
      rintro e wx ⟨rfl, hwx⟩
      have hwx' := hwx.symm
      subst hwx'
      clear hwx
      rcases hx : nx s (t.getD j 0) with _ | s'
      · have HD : Hid (Done t i (acc s) j) := (⟨s, hst.out, by have := HL.out; omega, fun _ => hx, rfl⟩ : Done t i (acc s) j)
        have he : enc none = -1 := rfl
        rw [he]
        clear hx hst he
        go_wp2_with fail
        refine (accepts s hs w).mono ?_
        rintro e wx ⟨rfl, hwx⟩
        have hwx' := hwx.symm
        subst hwx'
        clear hwx
        generalize acc s = r at *
        go_wp2_with fail
        go_ret2
        exact ⟨ans HD.out, rfl⟩
      · have HS : Hid (NumRun t i s' (j + 1)) := NumRun.next hst.out (by have := HL.out; omega) hx
        have hs' : s' ≤ 8 := nx_le hx
        have he : enc (some s') = (s' : Int) := rfl
        rw [he]
        have hd : ((s' : Int) == -1) = false := by rw [beq_eq_false_iff_ne]; omega
        clear hx hst he
        go_wp2_with fail
        go_roundw
        case rel => exact ⟨s', j + 1, hs', by omega, rfl, by go_num, trivial, HS⟩
        case measure => simp [intOf]; omega
    · have HD : Hid (Done t i (acc s) j) := (⟨s, hst.out, by have := HL.out; omega, fun h => by have := HL.out; omega, rfl⟩ : Done t i (acc s) j)
      clear hst
      go_wp2_with fail
      refine (accepts s hs w).mono ?_
      rintro e wx ⟨rfl, hwx⟩
      have hwx' := hwx.symm
      subst hwx'
      clear hwx
      generalize acc s = r at *
      go_wp2_with fail
      go_ret2
      exact ⟨ans HD.out, rfl⟩

set_option maxHeartbeats 400000 in
theorem dig_yes (b : Int) (h : Digit b) (w : World) : Calls Try.prog 29 #[.int .u8 b] w fun e w' => e = .returned (.bool true) ∧ w' = w := by
  obtain ⟨h1, h2⟩ := h
  go_enter Try.func29, Try.ntmps29
  go_wp2
  go_ret
  exact ⟨rfl, rfl⟩

set_option maxHeartbeats 400000 in
theorem dig_no (b : Int) (h : ¬ Digit b) (w : World) : Calls Try.prog 29 #[.int .u8 b] w fun e w' => e = .returned (.bool false) ∧ w' = w := by
  by_cases h1 : 48 ≤ b
  · have h2 : ¬ b ≤ 57 := fun h2 => h ⟨h1, h2⟩
    clear h
    go_enter Try.func29, Try.ntmps29
    go_wp2
    go_ret
    exact ⟨rfl, rfl⟩
  · clear h
    go_enter Try.func29, Try.ntmps29
    go_wp2
    go_ret
    exact ⟨rfl, rfl⟩

/-- a compaction in block C: its text (block Bk), its place k. -/
structure St (w : World) (C Bk n : Nat) (t : List Int) (k : Nat) : Prop where
  text : w.cell? ⟨C, 0, none⟩ = some (.slice (some ⟨Bk, 0, none⟩) n n)
  at_ : w.cell? ⟨C, 1, none⟩ = some (.int .i64 k)
  free : w.frozen? ⟨C, 1, none⟩ = false
  bytes : ∀ j, j < n → w.cell? ⟨Bk, j, none⟩ = some (.int .u8 (t.getD j 0))
  apart : Bk ≠ C

theorem St.move {w : World} {C Bk n : Nat} {t : List Int} {k : Nat} (h : St w C Bk n t k) (k' : Nat) : St (w.setCell ⟨C, 1, none⟩ (.int .i64 k')) C Bk n t k' where
  text := by rw [World.cell?_setCell_other _ _ _ _ (by intro e; cases e)]; exact h.text
  at_ := World.cell?_setCell_same _ _ _ h.at_
  free := by rw [World.frozen?_setCell]; exact h.free
  bytes := fun j hj => by rw [World.cell?_setCell_other _ _ _ _ (by exact fun e => h.apart (congrArg Addr.block e).symm)]; exact h.bytes j hj
  apart := h.apart

theorem St.drew {w : World} {C Bk n : Nat} {t : List Int} {k m : Nat} (h : St w C Bk n t k) : St (w.drewN m) C Bk n t k := ⟨h.text, h.at_, h.free, h.bytes, h.apart⟩

/-- digits: whether there was one, and how far. -/
def Digs (e : Ending) (w' : World) (C Bk n : Nat) (t : List Int) (k : Nat) : Prop :=
  ∃ j, k ≤ j ∧ j ≤ n ∧ (∀ q, k ≤ q → q < j → Digit (t.getD q 0)) ∧ (j < n → ¬ Digit (t.getD j 0)) ∧ St w' C Bk n t j ∧ e = .returned (.bool (decide (k < j)))

set_option maxHeartbeats 4000000 in
theorem digits (C Bk n k : Nat) (t : List Int) (w : World) (hn : n ≤ 1000000) (hk : k ≤ n) (h : St w C Bk n t k) :
    Calls Try.prog 22 #[.pointer (some ⟨C, 0, none⟩)] w fun e w' => Digs e w' C Bk n t k ∧ Below C w w' := by
  have c1 := h.at_
  have HS : Hid (St w C Bk n t k) := h
  clear h
  go_enter Try.func22, Try.ntmps22
  go_wp2_with fail
  clear c1
  go_loopw [30] (fun d wr => ∃ j : Nat, k ≤ j ∧ j ≤ n ∧ Hid (St wr C Bk n t j) ∧ Hid (∀ q, k ≤ q → q < j → Digit (t.getD q 0)) ∧ Hid (Below C w wr)) (fun _ wr => n - (intOf ((wr.cell? ⟨C, 1, none⟩).getD undef)).toNat)
  case atStart => exact ⟨k, Nat.le_refl _, hk, HS, show ∀ q, k ≤ q → q < k → _ from fun q h1 h2 => absurd h2 (by omega), Below.refl _ _⟩
  case round =>
    obtain ⟨j, hkj, hjn, hst, hall, hb⟩ := hrel
    have ct := hst.out.text
    have ca := hst.out.at_
    have cf := hst.out.free
    by_cases hlt : j < n
    · have hlt2 : (j : Int) < (n : Int) := by omega
      have cj := hst.out.bytes j hlt
      by_cases hd : Digit (t.getD j 0)
      · have HD : Hid (Digit (t.getD j 0)) := hd
        have HM : Hid (∀ nq, St ((wr.drewN nq).setCell ⟨C, 1, none⟩ (.int .i64 ((j + 1 : Nat) : Int))) C Bk n t (j + 1)) := show ∀ nq, _ from fun nq => (hst.out.drew (m := nq)).move (j + 1)
        have HA : Hid (∀ q, k ≤ q → q < j + 1 → Digit (t.getD q 0)) := show ∀ q, _ from fun q h1 h2 => by
          by_cases e : q = j
          · subst e; exact hd
          · exact hall.out q h1 (by omega)
        clear hd hst hall
        go_wp2_with fail
        go_quiet (first | (go_at_call 29; refine Calls.quiet_of_same (dig_yes _ HD.out _)))
        go_wp2_with fail
        go_roundw
        case rel => exact ⟨j + 1, by omega, by omega, HM.out _, HA, show Below _ _ _ from (drew_below hb.out).setCell (Nat.le_refl _) _⟩
        case measure =>
          have e1 : ((wr.drewN nq).setCell ⟨C, 1, none⟩ (.int .i64 ((j : Int) + 1))).cell? ⟨C, 1, none⟩ = some (.int .i64 ((j : Int) + 1)) := (HM.out nq).at_
          rw [e1, ca]
          simp [intOf]
          omega
      · have HD : Hid (¬ Digit (t.getD j 0)) := hd
        clear hd
        go_wp2_with fail
        go_quiet (first | (go_at_call 29; refine Calls.quiet_of_same (dig_no _ HD.out _)))
        go_wp2_with fail
        go_ret
        exact ⟨⟨j, hkj, hjn, hall.out, fun _ => HD.out, hst.out.drew, rfl⟩, drew_below hb.out⟩
    · have hlt2 : decide ((j : Int) < (n : Int)) = false := decide_eq_false (by omega)
      go_wp2_with fail
      go_quiet (fail)
      go_wp2_with fail
      go_ret
      exact ⟨⟨j, hkj, hjn, hall.out, fun h => absurd h hlt, hst.out.drew, rfl⟩, drew_below hb.out⟩
end Go.Proofs.Qxb6605418a.NumWalks
