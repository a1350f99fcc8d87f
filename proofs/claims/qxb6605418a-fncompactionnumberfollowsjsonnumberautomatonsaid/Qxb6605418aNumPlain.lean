/-
  The number diagram: states, edges, runs; no Go in sight.
-/
import GoSem.Claim
namespace Go.Proofs.Qxb6605418a.NumPlain

/-- an edge of the diagram. -/
def nx : Nat → Int → Option Nat
  | 0, b => if b = 45 then some 1 else if b = 48 then some 2 else if 49 ≤ b ∧ b ≤ 57 then some 3 else none
  | 1, b => if b = 48 then some 2 else if 49 ≤ b ∧ b ≤ 57 then some 3 else none
  | 2, b => if b = 46 then some 4 else if b = 101 ∨ b = 69 then some 6 else none
  | 3, b => if 48 ≤ b ∧ b ≤ 57 then some 3 else if b = 46 then some 4 else if b = 101 ∨ b = 69 then some 6 else none
  | 4, b => if 48 ≤ b ∧ b ≤ 57 then some 5 else none
  | 5, b => if 48 ≤ b ∧ b ≤ 57 then some 5 else if b = 101 ∨ b = 69 then some 6 else none
  | 6, b => if b = 43 ∨ b = 45 then some 7 else if 48 ≤ b ∧ b ≤ 57 then some 8 else none
  | 7, b => if 48 ≤ b ∧ b ≤ 57 then some 8 else none
  | 8, b => if 48 ≤ b ∧ b ≤ 57 then some 8 else none
  | _, _ => none

def enc : Option Nat → Int
  | some s => s
  | none => -1

def acc (s : Nat) : Bool := decide (s = 2 ∨ s = 3 ∨ s = 5 ∨ s = 8)

theorem nx_le {s : Nat} {b : Int} {s' : Nat} (h : nx s b = some s') : s' ≤ 8 := by
  unfold nx at h
  split at h <;> (repeat' split at h) <;> simp_all <;> omega

/-- from place i, in state 0: the run stands at place j in state s. -/
inductive NumRun (t : List Int) (i : Nat) : Nat → Nat → Prop
  | start : NumRun t i 0 i
  | next {s s' j : Nat} : NumRun t i s j → j < t.length → nx s (t.getD j 0) = some s' → NumRun t i s' (j + 1)

theorem NumRun.ge {t : List Int} {i s j : Nat} (h : NumRun t i s j) : i ≤ j := by
  induction h with
  | start => exact Nat.le_refl _
  | next _ _ _ ih => omega

theorem NumRun.small {t : List Int} {i s j : Nat} (h : NumRun t i s j) : s ≤ 8 := by
  cases h with
  | start => omega
  | next _ _ h => exact nx_le h

theorem NumRun.one {t : List Int} {i s j s' : Nat} (h : NumRun t i s j) (h' : NumRun t i s' j) : s = s' := by
  induction h generalizing s' with
  | start =>
    generalize hj : i = j at h'
    cases h' with
    | start => rfl
    | next h1 _ _ => have := h1.ge; omega
  | next h1 h2 h3 ih =>
    generalize hj : _ + 1 = j' at h'
    cases h' with
    | start => have := h1.ge; omega
    | next g1 g2 g3 =>
      obtain rfl : _ = _ := Nat.succ.inj hj
      have := ih g1
      subst this
      rw [h3] at g3
      exact Option.some.inj g3

/-- every place behind the run's end had its edge on. -/
theorem NumRun.back {t : List Int} {i s j : Nat} (h : NumRun t i s j) (k : Nat) (hk : i ≤ k) (hkj : k < j) : ∃ s', NumRun t i s' k ∧ k < t.length ∧ nx s' (t.getD k 0) ≠ none := by
  induction h with
  | start => omega
  | next h1 h2 h3 ih =>
    rename_i s1 s2 j1
    by_cases e : k = j1
    · subst e
      exact ⟨s1, h1, h2, by rw [h3]; simp⟩
    · exact ih (by omega)

/-- what the diagram answers: whether, and where. -/
def Done (t : List Int) (i : Nat) (r : Bool) (j : Nat) : Prop := ∃ s, NumRun t i s j ∧ j ≤ t.length ∧ (j < t.length → nx s (t.getD j 0) = none) ∧ r = acc s

theorem done_le {t : List Int} {i j j' : Nat} {r r' : Bool} (h : Done t i r j) (h' : Done t i r' j') : j ≤ j' := by
  obtain ⟨s, h1, h2, h3, rfl⟩ := h
  obtain ⟨s', g1, g2, g3, rfl⟩ := h'
  apply Classical.byContradiction
  intro hn
  obtain ⟨s2, k1, k2, k3⟩ := h1.back j' g1.ge (by omega)
  rw [g1.one k1] at g3
  exact k3 (g3 k2)

theorem done_one {t : List Int} {i j j' : Nat} {r r' : Bool} (h : Done t i r j) (h' : Done t i r' j') : r = r' ∧ j = j' := by
  have hj : j = j' := Nat.le_antisymm (done_le h h') (done_le h' h)
  subst hj
  obtain ⟨s, h1, h2, h3, rfl⟩ := h
  obtain ⟨s', g1, g2, g3, rfl⟩ := h'
  rw [h1.one g1]
  exact ⟨rfl, rfl⟩

def Digit (b : Int) : Prop := 48 ≤ b ∧ b ≤ 57

/-- a run of digits keeps a state that digits keep. -/
theorem NumRun.digits {t : List Int} {i s k : Nat} (h : NumRun t i s k) (hs : ∀ b, Digit b → nx s b = some s) : ∀ m, (∀ q, k ≤ q → q < k + m → Digit (t.getD q 0)) → k + m ≤ t.length → NumRun t i s (k + m)
  | 0, _, _ => h
  | m + 1, hd, hl => by
    have ih := NumRun.digits h hs m (fun q h1 h2 => hd q h1 (by omega)) (by omega)
    exact NumRun.next (j := k + m) ih (by omega) (hs _ (hd (k + m) (by omega) (by omega)))

/-- a first digit, then a run of them. -/
theorem NumRun.run {t : List Int} {i s s' k j : Nat} (h : NumRun t i s k) (hkj : k < j) (hj : j ≤ t.length) (hd : ∀ q, k ≤ q → q < j → Digit (t.getD q 0)) (h1 : nx s (t.getD k 0) = some s') (hs : ∀ b, Digit b → nx s' b = some s') : NumRun t i s' j := by
  have h2 : NumRun t i s' (k + 1) := .next h (by omega) h1
  have := h2.digits hs (j - (k + 1)) (fun q a b => hd q (by omega) (by omega)) (by omega)
  rwa [show k + 1 + (j - (k + 1)) = j from by omega] at this

theorem nx3 (b : Int) (h : Digit b) : nx 3 b = some 3 := by unfold Digit at h; simp [nx, h]
theorem nx5 (b : Int) (h : Digit b) : nx 5 b = some 5 := by unfold Digit at h; simp [nx, h]
theorem nx8 (b : Int) (h : Digit b) : nx 8 b = some 8 := by unfold Digit at h; simp [nx, h]

/-! the number's four stations -/
/-- behind the sign. -/
def A (t : List Int) (i k : Nat) : Prop := ∃ s, NumRun t i s k ∧ k ≤ t.length ∧ ((s = 0 ∧ (k < t.length → t.getD k 0 ≠ 45)) ∨ s = 1)
/-- behind the whole part. -/
def B (t : List Int) (i k : Nat) : Prop := ∃ s, NumRun t i s k ∧ k ≤ t.length ∧ (s = 2 ∨ (s = 3 ∧ (k < t.length → ¬ Digit (t.getD k 0))))
/-- behind the fraction. -/
def C (t : List Int) (i k : Nat) : Prop := ∃ s, NumRun t i s k ∧ k ≤ t.length ∧ ((s = 2 ∧ (k < t.length → t.getD k 0 ≠ 46)) ∨ (s = 3 ∧ (k < t.length → ¬ Digit (t.getD k 0) ∧ t.getD k 0 ≠ 46)) ∨ (s = 5 ∧ (k < t.length → ¬ Digit (t.getD k 0))))
/-- behind the exponent's mark and sign. -/
def D (t : List Int) (i k : Nat) : Prop := ∃ s, NumRun t i s k ∧ k ≤ t.length ∧ ((s = 6 ∧ (k < t.length → t.getD k 0 ≠ 43 ∧ t.getD k 0 ≠ 45)) ∨ s = 7)

theorem a_minus {t : List Int} {i : Nat} (hi : i < t.length) (h : t.getD i 0 = 45) : A t i (i + 1) :=
  ⟨1, .next .start hi (by rw [h]; decide), by omega, .inr rfl⟩
theorem a_none {t : List Int} {i : Nat} (hi : i < t.length) (h : t.getD i 0 ≠ 45) : A t i i :=
  ⟨0, .start, by omega, .inl ⟨rfl, fun _ => h⟩⟩

theorem b_zero {t : List Int} {i k : Nat} (ha : A t i k) (hk : k < t.length) (h : t.getD k 0 = 48) : B t i (k + 1) := by
  obtain ⟨s, h1, h2, ⟨rfl, h3⟩ | rfl⟩ := ha
  · exact ⟨2, .next h1 hk (by rw [h]; decide), by omega, .inl rfl⟩
  · exact ⟨2, .next h1 hk (by rw [h]; decide), by omega, .inl rfl⟩
theorem b_fail {t : List Int} {i k : Nat} (ha : A t i k) (h0 : k < t.length → t.getD k 0 ≠ 48) (hd : k < t.length → ¬ Digit (t.getD k 0)) : Done t i false k := by
  obtain ⟨s, h1, h2, ⟨rfl, h3⟩ | rfl⟩ := ha
  · refine ⟨0, h1, h2, fun hk => ?_, by decide⟩
    have a := h0 hk; have b := hd hk; have c := h3 hk
    unfold Digit at b
    simp only [nx]
    rw [if_neg c, if_neg a, if_neg (by omega)]
  · refine ⟨1, h1, h2, fun hk => ?_, by decide⟩
    have a := h0 hk; have b := hd hk
    unfold Digit at b
    simp only [nx]
    rw [if_neg a, if_neg (by omega)]
theorem b_digits {t : List Int} {i k j : Nat} (ha : A t i k) (h0 : k < t.length → t.getD k 0 ≠ 48) (hkj : k < j) (hj : j ≤ t.length) (hd : ∀ q, k ≤ q → q < j → Digit (t.getD q 0)) (he : j < t.length → ¬ Digit (t.getD j 0)) : B t i j := by
  have a := h0 (by omega)
  have b := hd k (by omega) hkj
  unfold Digit at b
  obtain ⟨s, h1, h2, ⟨rfl, h3⟩ | rfl⟩ := ha
  · exact ⟨3, h1.run hkj hj hd (by simp only [nx]; rw [if_neg (by omega), if_neg a, if_pos (by omega)]) nx3, hj, .inr ⟨rfl, he⟩⟩
  · exact ⟨3, h1.run hkj hj hd (by simp only [nx]; rw [if_neg a, if_pos (by omega)]) nx3, hj, .inr ⟨rfl, he⟩⟩

theorem c_none {t : List Int} {i k : Nat} (hb : B t i k) (h : k < t.length → t.getD k 0 ≠ 46) : C t i k := by
  obtain ⟨s, h1, h2, rfl | ⟨rfl, h3⟩⟩ := hb
  · exact ⟨2, h1, h2, .inl ⟨rfl, h⟩⟩
  · exact ⟨3, h1, h2, .inr (.inl ⟨rfl, fun hk => ⟨h3 hk, h hk⟩⟩)⟩
theorem dot {t : List Int} {i k : Nat} (hb : B t i k) (hk : k < t.length) (h : t.getD k 0 = 46) : NumRun t i 4 (k + 1) := by
  obtain ⟨s, h1, h2, rfl | ⟨rfl, h3⟩⟩ := hb
  · exact .next h1 hk (by rw [h]; decide)
  · exact .next h1 hk (by rw [h]; decide)
theorem c_fail {t : List Int} {i k : Nat} (hs : NumRun t i 4 k) (hk : k ≤ t.length) (hd : k < t.length → ¬ Digit (t.getD k 0)) : Done t i false k := by
  refine ⟨4, hs, hk, fun h => ?_, by decide⟩
  have := hd h
  unfold Digit at this
  simp only [nx]
  rw [if_neg this]
theorem c_digits {t : List Int} {i k j : Nat} (hs : NumRun t i 4 k) (hkj : k < j) (hj : j ≤ t.length) (hd : ∀ q, k ≤ q → q < j → Digit (t.getD q 0)) (he : j < t.length → ¬ Digit (t.getD j 0)) : C t i j := by
  have b := hd k (by omega) hkj
  unfold Digit at b
  exact ⟨5, hs.run hkj hj hd (by simp only [nx]; rw [if_pos b]) nx5, hj, .inr (.inr ⟨rfl, he⟩)⟩

theorem d_done {t : List Int} {i k : Nat} (hc : C t i k) (h : k < t.length → ¬ (t.getD k 0 = 101 ∨ t.getD k 0 = 69)) : Done t i true k := by
  obtain ⟨s, h1, h2, ⟨rfl, h3⟩ | ⟨rfl, h3⟩ | ⟨rfl, h3⟩⟩ := hc
  · refine ⟨2, h1, h2, fun hk => ?_, by decide⟩
    simp only [nx]
    rw [if_neg (h3 hk), if_neg (h hk)]
  · refine ⟨3, h1, h2, fun hk => ?_, by decide⟩
    have := (h3 hk).1
    unfold Digit at this
    simp only [nx]
    rw [if_neg this, if_neg (h3 hk).2, if_neg (h hk)]
  · refine ⟨5, h1, h2, fun hk => ?_, by decide⟩
    have := h3 hk
    unfold Digit at this
    simp only [nx]
    rw [if_neg this, if_neg (h hk)]
theorem mark {t : List Int} {i k : Nat} (hc : C t i k) (hk : k < t.length) (h : t.getD k 0 = 101 ∨ t.getD k 0 = 69) : NumRun t i 6 (k + 1) := by
  obtain ⟨s, h1, h2, ⟨rfl, h3⟩ | ⟨rfl, h3⟩ | ⟨rfl, h3⟩⟩ := hc
  · refine .next h1 hk ?_
    simp only [nx]
    rw [if_neg (h3 hk), if_pos h]
  · refine .next h1 hk ?_
    simp only [nx]
    rw [if_neg (by omega), if_neg (by omega), if_pos h]
  · refine .next h1 hk ?_
    simp only [nx]
    rw [if_neg (by omega), if_pos h]
theorem d_none {t : List Int} {i k : Nat} (hs : NumRun t i 6 k) (hk : k ≤ t.length) (h : k < t.length → ¬ (t.getD k 0 = 43 ∨ t.getD k 0 = 45)) : D t i k :=
  ⟨6, hs, hk, .inl ⟨rfl, fun hl => ⟨fun e => h hl (.inl e), fun e => h hl (.inr e)⟩⟩⟩
theorem d_sign {t : List Int} {i k : Nat} (hs : NumRun t i 6 k) (hk : k < t.length) (h : t.getD k 0 = 43 ∨ t.getD k 0 = 45) : D t i (k + 1) :=
  ⟨7, .next hs hk (by simp only [nx]; rw [if_pos h]), by omega, .inr rfl⟩
theorem e_fail {t : List Int} {i k : Nat} (hD : D t i k) (hd : k < t.length → ¬ Digit (t.getD k 0)) : Done t i false k := by
  obtain ⟨s, h1, h2, ⟨rfl, h3⟩ | rfl⟩ := hD
  · refine ⟨6, h1, h2, fun hk => ?_, by decide⟩
    have b := hd hk; have c := h3 hk
    unfold Digit at b
    simp only [nx]
    rw [if_neg (by omega), if_neg b]
  · refine ⟨7, h1, h2, fun hk => ?_, by decide⟩
    have b := hd hk
    unfold Digit at b
    simp only [nx]
    rw [if_neg b]
theorem e_digits {t : List Int} {i k j : Nat} (hD : D t i k) (hkj : k < j) (hj : j ≤ t.length) (hd : ∀ q, k ≤ q → q < j → Digit (t.getD q 0)) (he : j < t.length → ¬ Digit (t.getD j 0)) : Done t i true j := by
  have b := hd k (by omega) hkj
  unfold Digit at b
  have hst : NumRun t i 8 j := by
    obtain ⟨s, h1, h2, ⟨rfl, h3⟩ | rfl⟩ := hD
    · exact h1.run hkj hj hd (by simp only [nx]; rw [if_neg (by omega), if_pos b]) nx8
    · exact h1.run hkj hj hd (by simp only [nx]; rw [if_pos b]) nx8
  refine ⟨8, hst, hj, fun hk => ?_, by decide⟩
  have := he hk
  unfold Digit at this
  simp only [nx]
  rw [if_neg this]
end Go.Proofs.Qxb6605418a.NumPlain
