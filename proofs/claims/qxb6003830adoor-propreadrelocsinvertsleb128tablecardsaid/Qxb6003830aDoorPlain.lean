/-
  The plain law: a table of pairs written as varints is read back; no proper prefix of it can be read. Lists of bytes alone.
-/
import Derived.Lib.Varint
import Derived.Lib.VarintDec
namespace Go.Proofs.Qxb6003830aDoor.Plain
open Go.Lib

/-- one varint off the front. -/
def rd1 (l : List UInt8) : Option (Nat × List UInt8) :=
  if (uvarintDec l).2 ≤ 0 then none else some ((uvarintDec l).1, l.drop (uvarintDec l).2.toNat)

/-- c pairs off the front. -/
def rdPairs : Nat → List UInt8 → Option (List (Nat × Nat) × List UInt8)
  | 0, l => some ([], l)
  | c + 1, l => match rd1 l with
    | none => none
    | some (s, l1) => match rd1 l1 with
      | none => none
      | some (i, l2) => match rdPairs c l2 with
        | none => none
        | some (ps, r) => some ((s, i) :: ps, r)

/-- a table: a count, then that many pairs. -/
def rdTab (l : List UInt8) : Option (List (Nat × Nat) × List UInt8) := match rd1 l with
  | none => none
  | some (c, l1) => rdPairs c l1

def encP (ps : List (Nat × Nat)) : List UInt8 := ps.flatMap fun q => uvarint q.1 ++ uvarint q.2
def encT (ps : List (Nat × Nat)) : List UInt8 := uvarint ps.length ++ encP ps

theorem byte_small {x : Nat} (h : x < 256) : (x.toUInt8).toNat = x := by
  simp only [Nat.toUInt8_eq, UInt8.toNat_ofNat']
  omega

theorem pow_step (i : Nat) : 2 ^ (7 * (i + 1)) = 128 * 2 ^ (7 * i) := by
  rw [Nat.mul_add, Nat.pow_add]
  omega

theorem i_le {x i : Nat} (hx : 128 ≤ x) (hb : x * 2 ^ (7 * i) < 2 ^ 64) : i ≤ 8 := by
  by_cases h : i ≤ 8
  · exact h
  · exfalso
    have h1 : 2 ^ (7 * 9) ≤ 2 ^ (7 * i) := Nat.pow_le_pow_right (by omega) (by omega)
    have h2 : 128 * 2 ^ (7 * 9) ≤ x * 2 ^ (7 * i) := Nat.mul_le_mul hx h1
    have h3 : (2 : Nat) ^ 64 ≤ 128 * 2 ^ (7 * 9) := by decide
    omega

theorem next_lt {x i : Nat} (hb : x * 2 ^ (7 * i) < 2 ^ 64) : x / 128 * 2 ^ (7 * (i + 1)) < 2 ^ 64 := by
  rw [pow_step, ← Nat.mul_assoc]
  exact Nat.lt_of_le_of_lt (Nat.mul_le_mul_right _ (Nat.div_mul_le_self x 128)) hb

theorem dec_enc (r : List UInt8) : ∀ (n x i acc : Nat), x ≤ n → i ≤ 9 → x * 2 ^ (7 * i) < 2 ^ 64 → uvarintFrom i acc (uvarint x ++ r) = (acc + x * 2 ^ (7 * i), (i : Int) + (uvarint x).length)
  | n, x, i, acc, hn, hi, hb => by
    by_cases hx : x < 128
    · rw [uvarint_small hx, List.singleton_append, uvarintFrom, if_neg (by omega), byte_small (by omega), if_pos hx, if_neg ?_]
      · simp
      · rintro ⟨rfl, h1⟩
        have : 2 * 2 ^ (7 * 9) ≤ x * 2 ^ (7 * 9) := Nat.mul_le_mul_right _ h1
        have h3 : (2 : Nat) ^ 64 ≤ 2 * 2 ^ (7 * 9) := by decide
        omega
    · have h8 := i_le (by omega) hb
      rw [uvarint_big (by omega), List.cons_append, uvarintFrom, if_neg (by omega), byte_small (by omega), if_neg (by omega)]
      cases n with
      | zero => omega
      | succ n =>
        rw [dec_enc r n (x / 128) (i + 1) _ (by omega) (by omega) (next_lt hb), pow_step]
        have e1 : (x % 128 + 128) % 128 = x % 128 := by omega
        have e2 : x % 128 * 2 ^ (7 * i) + x / 128 * (128 * 2 ^ (7 * i)) = x * 2 ^ (7 * i) := by
          rw [← Nat.mul_assoc, ← Nat.add_mul]
          congr 1
          omega
        rw [e1, Nat.add_assoc, e2, List.length_cons]
        simp only [Prod.mk.injEq, true_and]
        omega

theorem dec_part : ∀ (n x i acc k : Nat), x ≤ n → i ≤ 9 → x * 2 ^ (7 * i) < 2 ^ 64 → k < (uvarint x).length → uvarintFrom i acc ((uvarint x).take k) = (0, 0)
  | n, x, i, acc, 0, _, _, _, _ => by simp [uvarintFrom]
  | n, x, i, acc, k + 1, hn, hi, hb, hk => by
    by_cases hx : x < 128
    · rw [uvarint_small hx] at hk
      simp at hk
    · have h8 := i_le (by omega) hb
      rw [uvarint_big (by omega), List.length_cons] at hk
      rw [uvarint_big (by omega), List.take_succ_cons, uvarintFrom, if_neg (by omega), byte_small (by omega), if_neg (by omega)]
      cases n with
      | zero => omega
      | succ n => exact dec_part n (x / 128) (i + 1) _ k (by omega) (by omega) (next_lt hb) (by omega)

theorem rd1_enc (x : Nat) (hx : x < 2 ^ 64) (r : List UInt8) : rd1 (uvarint x ++ r) = some (x, r) := by
  have h := dec_enc r x x 0 0 (Nat.le_refl _) (by omega) (by simpa using hx)
  have hp := uvarint_pos x
  simp only [Nat.mul_zero, Nat.pow_zero, Nat.mul_one, Nat.zero_add, Int.natCast_zero, Int.zero_add] at h
  unfold rd1 uvarintDec
  rw [h]
  simp only
  rw [if_neg (by omega), Int.toNat_natCast, List.drop_left]

theorem rd1_part (x : Nat) (hx : x < 2 ^ 64) (k : Nat) (hk : k < (uvarint x).length) : rd1 ((uvarint x).take k) = none := by
  have h := dec_part x x 0 0 k (Nat.le_refl _) (by omega) (by simpa using hx) hk
  unfold rd1 uvarintDec
  rw [h]
  simp

theorem encP_cons (q : Nat × Nat) (ps : List (Nat × Nat)) : encP (q :: ps) = uvarint q.1 ++ (uvarint q.2 ++ encP ps) := by
  simp [encP]

theorem rdPairs_enc (t : List UInt8) : ∀ ps : List (Nat × Nat), (∀ q ∈ ps, q.1 < 2 ^ 64 ∧ q.2 < 2 ^ 64) → rdPairs ps.length (encP ps ++ t) = some (ps, t)
  | [], _ => by simp [rdPairs, encP]
  | q :: ps, h => by
    have hq := h q (by simp)
    rw [encP_cons, List.append_assoc, List.append_assoc, List.length_cons, rdPairs, rd1_enc _ hq.1]
    simp only
    rw [rd1_enc _ hq.2]
    simp only
    rw [rdPairs_enc t ps (fun x hx => h x (by simp [hx]))]

theorem rdPairs_part : ∀ (ps : List (Nat × Nat)) (k : Nat), (∀ q ∈ ps, q.1 < 2 ^ 64 ∧ q.2 < 2 ^ 64) → k < (encP ps).length → rdPairs ps.length ((encP ps).take k) = none
  | [], k, _, hk => by simp [encP] at hk
  | q :: ps, k, h, hk => by
    have hq := h q (by simp)
    rw [encP_cons, List.length_append, List.length_append] at hk
    rw [encP_cons, List.length_cons, rdPairs]
    by_cases h1 : k < (uvarint q.1).length
    · rw [List.take_append_of_le_length (by omega), rd1_part _ hq.1 _ h1]
    · rw [List.take_append, List.take_of_length_le (by omega), rd1_enc _ hq.1]
      simp only
      by_cases h2 : k - (uvarint q.1).length < (uvarint q.2).length
      · rw [List.take_append_of_le_length (by omega), rd1_part _ hq.2 _ h2]
      · rw [List.take_append, List.take_of_length_le (by omega), rd1_enc _ hq.2]
        simp only
        rw [rdPairs_part ps _ (fun x hx => h x (by simp [hx])) (by omega)]

theorem rdTab_enc (ps : List (Nat × Nat)) (t : List UInt8) (hl : ps.length < 2 ^ 64) (h : ∀ q ∈ ps, q.1 < 2 ^ 64 ∧ q.2 < 2 ^ 64) : rdTab (encT ps ++ t) = some (ps, t) := by
  unfold rdTab encT
  rw [List.append_assoc, rd1_enc _ hl]
  exact rdPairs_enc t ps h

theorem rdTab_part (ps : List (Nat × Nat)) (k : Nat) (hl : ps.length < 2 ^ 64) (h : ∀ q ∈ ps, q.1 < 2 ^ 64 ∧ q.2 < 2 ^ 64) (hk : k < (encT ps).length) : rdTab ((encT ps).take k) = none := by
  unfold encT at hk
  rw [List.length_append] at hk
  unfold rdTab encT
  by_cases h1 : k < (uvarint ps.length).length
  · rw [List.take_append_of_le_length (by omega), rd1_part _ hl _ h1]
  · rw [List.take_append, List.take_of_length_le (by omega), rd1_enc _ hl]
    exact rdPairs_part ps _ h (by omega)

theorem from_le : ∀ (l : List UInt8) (i acc : Nat), (uvarintFrom i acc l).2 ≤ (i : Int) + l.length
  | [], i, acc => by simp only [uvarintFrom, List.length_nil]; omega
  | b :: r, i, acc => by
    rw [uvarintFrom, List.length_cons]
    split
    · simp only; omega
    · split
      · split
        · simp only; omega
        · simp only; omega
      · have := from_le r (i + 1) (acc + b.toNat % 128 * 2 ^ (7 * i))
        omega

/-- a varint takes no more bytes than there are. -/
theorem rd1_le (l : List UInt8) : (uvarintDec l).2 ≤ l.length := by
  have := from_le l 0 0
  unfold uvarintDec
  omega
end Go.Proofs.Qxb6003830aDoor.Plain
