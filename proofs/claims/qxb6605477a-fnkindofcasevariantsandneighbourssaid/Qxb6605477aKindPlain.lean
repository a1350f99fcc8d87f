/-
  The field names and their kinds, in plain words; no Go in sight.
-/
import GoSem.Claim
namespace Go.Proofs.Qxb6605477a.KindPlain

/-- the names, in lower case. -/
def nm : Nat → ByteArray
  | 0 => { data := #[116, 101] }
  | 1 => { data := #[104, 111, 115, 116] }
  | 2 => { data := #[101, 120, 112, 101, 99, 116] }
  | 3 => { data := #[116, 114, 97, 105, 108, 101, 114] }
  | 4 => { data := #[117, 112, 103, 114, 97, 100, 101] }
  | 5 => { data := #[99, 111, 110, 110, 101, 99, 116, 105, 111, 110] }
  | 6 => { data := #[107, 101, 101, 112, 45, 97, 108, 105, 118, 101] }
  | 7 => { data := #[99, 111, 110, 116, 101, 110, 116, 45, 108, 101, 110, 103, 116, 104] }
  | 8 => { data := #[112, 114, 111, 120, 121, 45, 99, 111, 110, 110, 101, 99, 116, 105, 111, 110] }
  | 9 => { data := #[116, 114, 97, 110, 115, 102, 101, 114, 45, 101, 110, 99, 111, 100, 105, 110, 103] }
  | 10 => { data := #[112, 114, 111, 120, 121, 45, 97, 117, 116, 104, 101, 110, 116, 105, 99, 97, 116, 101] }
  | 11 => { data := #[112, 114, 111, 120, 121, 45, 97, 117, 116, 104, 111, 114, 105, 122, 97, 116, 105, 111, 110] }
  | _ => { data := #[] }

/-- their kinds. -/
def kd : Nat → Int
  | 0 => 7 | 1 => 1 | 2 => 2 | 3 => 7 | 4 => 6 | 5 => 5 | 6 => 7 | 7 => 3 | 8 => 7 | 9 => 4 | 10 => 7 | 11 => 7
  | _ => 0

/-- byte i of a string. -/
def bAt (s : ByteArray) (i : Nat) : Int := if h : i < s.size then ((s[i].toNat : Nat) : Int) else 0
theorem bAt_lt {s : ByteArray} {i : Nat} (h : i < s.size) : ((s[i].toNat : Nat) : Int) = bAt s i := by unfold bAt; rw [dif_pos h]
theorem bAt_nonneg (s : ByteArray) (i : Nat) : 0 ≤ bAt s i := by unfold bAt; split <;> omega
theorem bAt_le (s : ByteArray) (i : Nat) : bAt s i ≤ 255 := by
  unfold bAt
  split
  · have := UInt8.toNat_lt s[i]; omega
  · omega

def low (c : Int) : Int := if 65 ≤ c ∧ c ≤ 90 then c + 32 else c

/-- do the bytes spell the name, in either case? -/
def Spells (l : List Int) (s : ByteArray) : Prop := l.length = s.size ∧ ∀ i, i < s.size → low (l.getD i 0) = low (bAt s i)

/-- is k the kind of the bytes? -/
def KindIs (l : List Int) (k : Int) : Prop := (∃ i, i < 12 ∧ Spells l (nm i) ∧ k = kd i) ∨ ((∀ i, i < 12 → ¬ Spells l (nm i)) ∧ k = 0)

/-! the table's own facts -/
theorem t_small : ∀ i, i < 12 → 2 ≤ (nm i).size ∧ (nm i).size ≤ 19 := by decide
theorem t_low : ∀ i, i < 12 → ∀ p, p < (nm i).size → ¬ (65 ≤ bAt (nm i) p ∧ bAt (nm i) p ≤ 90) := by decide +kernel
theorem t_apart : ∀ i, i < 12 → ∀ j, j < 12 → (nm i).size = (nm j).size → i ≠ j → bAt (nm i) 0 ≠ bAt (nm j) 0 ∧ bAt (nm i) 1 ≠ bAt (nm j) 1 := by decide +kernel
theorem t_next : ∀ i, i < 12 → ∀ j, j < 12 → (nm j).size = (nm i).size + 1 → ∃ p, p < (nm i).size ∧ bAt (nm i) p ≠ bAt (nm j) p := by decide +kernel
theorem t_kd : ∀ i, i < 12 → 0 ≤ kd i ∧ kd i ≤ 7 := by decide

theorem low_id {c : Int} (h : ¬ (65 ≤ c ∧ c ≤ 90)) : low c = c := by unfold low; rw [if_neg h]
theorem low_nm {i p : Nat} (hi : i < 12) (hp : p < (nm i).size) : low (bAt (nm i) p) = bAt (nm i) p := low_id (t_low i hi p hp)

theorem spells_one {l : List Int} {i j : Nat} (hi : i < 12) (hj : j < 12) (h1 : Spells l (nm i)) (h2 : Spells l (nm j)) : i = j := by
  apply Classical.byContradiction
  intro hne
  have hs : (nm i).size = (nm j).size := by rw [← h1.1, ← h2.1]
  have h0 := (t_small i hi).1
  have e1 := h1.2 0 (by omega)
  have e2 := h2.2 0 (by omega)
  rw [low_nm hi (by omega)] at e1
  rw [low_nm hj (by omega)] at e2
  exact (t_apart i hi j hj hs hne).1 (by rw [← e1, ← e2])

theorem kind_one {l : List Int} {a b : Int} (h1 : KindIs l a) (h2 : KindIs l b) : a = b := by
  rcases h1 with ⟨i, hi, hs, rfl⟩ | ⟨hn, rfl⟩
  · rcases h2 with ⟨j, hj, hs2, rfl⟩ | ⟨hn2, rfl⟩
    · rw [spells_one hi hj hs hs2]
    · exact absurd hs (hn2 i hi)
  · rcases h2 with ⟨j, hj, hs2, rfl⟩ | ⟨hn2, rfl⟩
    · exact absurd hs2 (hn j hj)
    · rfl

/-- the law's own test of one byte. -/
def Fits (x y : Int) : Prop := x = y ∨ (97 ≤ y ∧ y ≤ 122 ∧ x = y - 32)
theorem fits_low {x y : Int} (hy : ¬ (65 ≤ y ∧ y ≤ 90)) : Fits x y ↔ low x = low y := by
  unfold Fits
  rw [low_id hy]
  unfold low
  split <;> omega

theorem spells_fits {l : List Int} {i : Nat} (hi : i < 12) : Spells l (nm i) ↔ l.length = (nm i).size ∧ ∀ p, p < (nm i).size → Fits (l.getD p 0) (bAt (nm i) p) := by
  unfold Spells
  constructor
  · rintro ⟨h1, h2⟩
    exact ⟨h1, fun p hp => (fits_low (t_low i hi p hp)).2 (h2 p hp)⟩
  · rintro ⟨h1, h2⟩
    exact ⟨h1, fun p hp => (fits_low (t_low i hi p hp)).1 (h2 p hp)⟩

/-- one byte more: no name. -/
theorem longer {l : List Int} {i : Nat} (hi : i < 12) (h : Spells l (nm i)) (c k : Int) (hk : KindIs (l ++ [c]) k) : k = 0 := by
  rcases hk with ⟨j, hj, hs, _⟩ | ⟨_, rfl⟩
  · exfalso
    have hl := hs.1
    rw [List.length_append, h.1] at hl
    obtain ⟨p, hp, hne⟩ := t_next i hi j hj (by simpa using hl.symm)
    have e1 := h.2 p hp
    have hp2 : p < (nm j).size := by simp at hl; omega
    have e2 := hs.2 p hp2
    rw [low_nm hi hp] at e1
    have hg : (l ++ [c]).getD p 0 = l.getD p 0 := by
      rw [List.getD_eq_getElem?_getD, List.getD_eq_getElem?_getD, List.getElem?_append_left (by rw [h.1]; exact hp)]
    rw [low_nm hj hp2, hg, e1] at e2
    exact hne e2
  · rfl

/-- one byte less: no name. -/
theorem shorter {l : List Int} {i : Nat} (hi : i < 12) (h : Spells l (nm i)) (k : Int) (hk : KindIs (l.take (l.length - 1)) k) : k = 0 := by
  rcases hk with ⟨j, hj, hs, _⟩ | ⟨_, rfl⟩
  · exfalso
    have hl := hs.1
    have h2 := (t_small i hi).1
    rw [List.length_take, h.1] at hl
    have hji : (nm i).size = (nm j).size + 1 := by omega
    obtain ⟨p, hp, hne⟩ := t_next j hj i hi hji
    have hpi : p < (nm i).size := by omega
    have e1 := h.2 p hpi
    have e2 := hs.2 p hp
    rw [low_nm hi hpi] at e1
    have hg : (l.take (l.length - 1)).getD p 0 = l.getD p 0 := by
      rw [List.getD_eq_getElem?_getD, List.getD_eq_getElem?_getD, List.getElem?_take, if_pos (by rw [h.1]; omega)]
    rw [low_nm hj hp, hg, e1] at e2
    exact hne e2.symm
  · rfl

/-- one byte replaced by none of its own: no name. -/
theorem other {l : List Int} {i : Nat} (hi : i < 12) (h : Spells l (nm i)) (p : Nat) (hp : p < (nm i).size) (c : Int) (hc : ¬ Fits c (bAt (nm i) p)) (k : Int) (hk : KindIs (l.set p c) k) : k = 0 := by
  rcases hk with ⟨j, hj, hs, _⟩ | ⟨_, rfl⟩
  · exfalso
    have hl := hs.1
    rw [List.length_set, h.1] at hl
    have h2 := (t_small i hi).1
    by_cases hij : i = j
    · subst hij
      have e := hs.2 p hp
      rw [List.getD_eq_getElem?_getD, List.getElem?_set_self (by rw [h.1]; exact hp)] at e
      exact hc ((fits_low (t_low i hi p hp)).2 e)
    · obtain ⟨n0, n1⟩ := t_apart i hi j hj hl hij
      have at_q : ∀ q, q < (nm i).size → q ≠ p → bAt (nm i) q = bAt (nm j) q := by
        intro q hq hne
        have e1 := h.2 q hq
        have e2 := hs.2 q (by omega)
        rw [List.getD_eq_getElem?_getD, List.getElem?_set_ne (fun e => hne e.symm), ← List.getD_eq_getElem?_getD, e1, low_nm hi hq, low_nm hj (by omega)] at e2
        exact e2
      by_cases hp0 : p = 0
      · exact n1 (at_q 1 (by omega) (by omega))
      · exact n0 (at_q 0 (by omega) (by omega))
  · rfl
end Go.Proofs.Qxb6605477a.KindPlain
