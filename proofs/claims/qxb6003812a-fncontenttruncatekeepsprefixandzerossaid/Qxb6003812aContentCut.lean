/-
  memfs.below (44) and content.truncate (38).
-/
import Derived.Test.Qxb6003812aContentAids
import Derived.Test.Qxb6003812aMapStore
import Derived.Lib.SliceRun
namespace Go.Proofs.Qxb6003812a.ContentCut
open Go.RowKit Go.Proofs.Qxb6003812a.ContentPage Go.Proofs.Qxb6003812a.ContentSet Go.Proofs.Qxb6003812a.ContentPlain Go.Proofs.Qxb6003812a.ContentWrite Go.Proofs.Qxb6003812a.ContentRead Go.Proofs.Qxb6003812a.ContentAids

/-- the pages below s. -/
def cut (p : Pages) (s : Nat) : Pages :=
  { pa := fun i => if s ≤ i * 65536 then none else p.pa i, pc := fun i => if s ≤ i * 65536 then 0 else p.pc i, pg := fun i => (p.pg i).take (s - i * 65536) }

theorem cut_rd (p : Pages) (s x : Nat) : rd (cut p s) x = if x < s then rd p x else 0 := by
  unfold rd cut
  simp only [List.getD_eq_getElem?_getD, List.getElem?_take]
  by_cases h : x < s
  · rw [if_pos h, if_pos (by omega)]
  · rw [if_neg h, if_neg (by omega)]
    rfl

theorem cut_len (p : Pages) (s i : Nat) : ((cut p s).pg i).length = min (s - i * 65536) (p.pg i).length := by
  unfold cut
  simp

set_option maxHeartbeats 1000000 in
theorem below_over (a : Option Addr) (n c : Nat) (start s : Nat) (w : World) (h : s ≤ start) :
    Calls Try.prog 44 #[.slice a n c, .int .i64 start, .int .i64 s] w fun e w' => e = .returned (.slice none 0 0) ∧ w' = w := by
  go_enter Try.func44, Try.ntmps44
  go_wp2
  go_ret
  exact ⟨rfl, rfl⟩

set_option maxHeartbeats 1000000 in
theorem below_all (a : Option Addr) (n c : Nat) (start s : Nat) (w : World) (h : start < s) (hn : start + n ≤ s) (hs : s ≤ 1000000) :
    Calls Try.prog 44 #[.slice a n c, .int .i64 start, .int .i64 s] w fun e w' => e = .returned (.slice a n c) ∧ w' = w := by
  go_enter Try.func44, Try.ntmps44
  go_wp2
  go_ret
  exact ⟨rfl, rfl⟩

set_option maxHeartbeats 1000000 in
theorem below_part (x : Addr) (n c : Nat) (start s : Nat) (w : World) (h : start < s) (hn : s < start + n) (hs : s ≤ 1000000) (hst : start ≤ 100000000000) (hn2 : n ≤ 65536) (hc : n ≤ c) :
    Calls Try.prog 44 #[.slice (some x) n c, .int .i64 start, .int .i64 s] w fun e w' => e = .returned (.slice (some x) (s - start) c) ∧ w' = w := by
  have e1 : ((s : Int) - (start : Int)).toNat = s - start := by omega
  go_enter Try.func44, Try.ntmps44
  go_wp2
  go_ret
  exact ⟨rfl, rfl⟩

section
variable {w : World} {cb cnt : Nat} {sz : Int} {r : Option Nat} {p : Pages}

theorem page_shape (h : Con w cb cnt sz r p) (i : Nat) : (p.pa i = none ∧ p.pg i = [] ∧ p.pc i = 0) ∨ ∃ g, p.pa i = some ⟨g, 0, none⟩ ∧ (p.pg i).length ≤ p.pc i := by
  rcases (h.row i).2 with ⟨e, e2⟩ | ⟨g, cap, cur, e, _, _, hl, _⟩
  · unfold Pages.val at e
    simp only [Value.slice.injEq] at e
    exact .inl ⟨e.1, List.eq_nil_of_length_eq_zero e2, e.2.2⟩
  · unfold Pages.val at e
    simp only [Value.slice.injEq] at e
    exact .inr ⟨g, e.1, by rw [e.2.2]; exact hl⟩

/-- memfs.below of a page. -/
theorem below_cut (h : Con w cb cnt sz r p) (i s : Nat) (hi : i ≤ 1000000) (hs : s ≤ 1000000) (st : Int) (hst : st = ((i * 65536 : Nat) : Int)) (w' : World) :
    Calls Try.prog 44 #[.slice (p.pa i) (p.pg i).length (p.pc i), .int .i64 st, .int .i64 s] w' fun e w'' => e = .returned (.slice ((cut p s).pa i) ((cut p s).pg i).length ((cut p s).pc i)) ∧ w'' = w' := by
  subst hst
  have hl := h.len i
  rw [cut_len]
  by_cases h1 : s ≤ i * 65536
  · have e : Value.slice ((cut p s).pa i) (min (s - i * 65536) (p.pg i).length) ((cut p s).pc i) = .slice none 0 0 := by
      simp [cut, h1]
    rw [e]
    exact below_over _ _ _ _ s w' h1
  · have ea : (cut p s).pa i = p.pa i := by simp [cut, h1]
    have ec : (cut p s).pc i = p.pc i := by simp [cut, h1]
    rw [ea, ec]
    by_cases h2 : i * 65536 + (p.pg i).length ≤ s
    · rw [show min (s - i * 65536) (p.pg i).length = (p.pg i).length from by omega]
      exact below_all _ _ _ _ s w' (by omega) h2 hs
    · rcases page_shape h i with ⟨_, e, _⟩ | ⟨g, e, hc⟩
      · rw [e] at h2
        simp at h2
        omega
      · rw [e, show min (s - i * 65536) (p.pg i).length = s - i * 65536 from by omega]
        exact below_part _ _ _ _ s w' (by omega) (by omega) hs (by omega) hl hc

theorem row_take {base n : Nat} {a : Option Addr} {c : Nat} {l : List Int} (h : w.ownsRow base 5 1 (.slice a n c) n (ints l)) (hl : l.length = n) (m : Nat) (hm : m ≤ n) (h0 : a = none → c = 0) : w.ownsRow base 5 1 (.slice a m c) m (ints (l.take m)) := by
  refine ⟨by simp [ints]; omega, ?_⟩
  rcases h.2 with ⟨e, e2⟩ | ⟨g, cap, cur, e, hb, hg, h1, h2, h3, h4⟩
  · left
    simp only [Value.slice.injEq] at e
    refine ⟨?_, by omega⟩
    rw [e.1, h0 e.1, show m = 0 from by omega]
  · right
    simp only [Value.slice.injEq] at e
    obtain ⟨rfl, _, rfl⟩ := e
    refine ⟨g, c, cur, rfl, hb, hg, by omega, h2, h3, ?_⟩
    have : (cur.toList.take (n * 1)).take (m * 1) = (ints l).take (m * 1) := by rw [h4]
    rw [List.take_take, show min (m * 1) (n * 1) = m * 1 from by omega] at this
    rw [this, Nat.mul_one]
    simp [ints]

/-- the rows of the cut pages. -/
theorem cut_row (h : Con w cb cnt sz r p) (s : Nat) (i : Nat) : w.ownsRow (cb + 1) 5 1 ((cut p s).val i) ((cut p s).pg i).length (ints ((cut p s).pg i)) := by
  by_cases h1 : s ≤ i * 65536
  · have e1 : (cut p s).val i = .slice none 0 0 := by
      unfold Pages.val
      rw [cut_len]
      simp [cut, h1]
    have e2 : (cut p s).pg i = [] := by
      unfold cut
      simp only
      rw [show s - i * 65536 = 0 from by omega]
      rfl
    rw [e1, e2]
    exact World.ownsRow_nil _ _ _ _
  · have hr := h.row i
    have e1 : (cut p s).val i = .slice (p.pa i) ((cut p s).pg i).length (p.pc i) := by
      unfold Pages.val
      simp [cut, h1]
    have e2 : (cut p s).pg i = (p.pg i).take ((cut p s).pg i).length := by
      rw [cut_len]
      unfold cut
      simp only
      rw [← List.take_eq_take_min]
    rw [e1, e2]
    simp only [List.length_take]
    have hle : ((cut p s).pg i).length ≤ (p.pg i).length := by rw [cut_len]; omega
    rw [show min ((cut p s).pg i).length (p.pg i).length = ((cut p s).pg i).length from by omega]
    refine row_take hr rfl _ hle (fun ha => ?_)
    rcases page_shape h i with ⟨_, _, e⟩ | ⟨g, e, _⟩
    · exact e
    · rw [e] at ha; cases ha

theorem cut_block (p : Pages) (s i : Nat) : ((cut p s).val i).ownBlock = none ∨ ((cut p s).val i).ownBlock = (p.val i).ownBlock := by
  by_cases h1 : s ≤ i * 65536
  · left; simp [Pages.val, cut, h1, Value.ownBlock]
  · right
    simp only [Pages.val, cut, h1, if_false]
    cases p.pa i <;> rfl

theorem cut_apart (h : Con w cb cnt sz r p) (s : Nat) : ∀ i j, i ≠ j → ((cut p s).val i).ownBlock = none ∨ ((cut p s).val i).ownBlock ≠ ((cut p s).val j).ownBlock := by
  intro i j hij
  rcases cut_block p s i with e | e
  · exact .inl e
  · rw [e]
    rcases h.apart i j hij with e1 | e1
    · exact .inl e1
    · rcases cut_block p s j with e2 | e2
      · rw [e2]
        cases hv : (p.val i).ownBlock
        · exact .inl rfl
        · exact .inr (by simp)
      · rw [e2]; exact .inr e1

/-- where the cut page is nil its value is nil. -/
theorem cut_nil (h : Con w cb cnt sz r p) (s i : Nat) (hn : (cut p s).pa i = none) : (cut p s).val i = .slice none 0 0 := by
  unfold Pages.val
  rw [hn, cut_len]
  by_cases h1 : s ≤ i * 65536
  · simp [cut, h1]
  · have ea : (cut p s).pa i = p.pa i := by simp [cut, h1]
    have ec : (cut p s).pc i = p.pc i := by simp [cut, h1]
    rw [ea] at hn
    rcases page_shape h i with ⟨_, e2, e3⟩ | ⟨g, e, _⟩
    · rw [ec, e2, e3]; simp
    · rw [e] at hn; cases hn
end
end Go.Proofs.Qxb6003812a.ContentCut
