/-
  Plain facts on a content's pages: the flat view, what one round of a write does to it.
-/
import Derived.Test.Qxb6003812aContentSet
namespace Go.Proofs.Qxb6003812a.ContentPlain
open Go.RowKit Go.Proofs.Qxb6003812a.ContentPage Go.Proofs.Qxb6003812a.ContentSet

/-- the byte at x. -/
def rd (p : Pages) (x : Nat) : Int := (p.pg (x / 65536)).getD (x % 65536) 0

/-- what a write of the first k bytes of l at off does. -/
structure Wr (p : Pages) (off : Nat) (l : List Int) (k : Nat) (p' : Pages) : Prop where
  flat : ∀ x, rd p' x = if off ≤ x ∧ x < off + k then l.getD (x - off) 0 else rd p x
  lens : ∀ i, (p'.pg i).length ≤ max (p.pg i).length (off + k - i * 65536)
  only : ∀ i, p'.pg i = p.pg i ∨ (0 < k ∧ i * 65536 < off + k ∧ off < (i + 1) * 65536)

theorem Wr.start (p : Pages) (off : Nat) (l : List Int) : Wr p off l 0 p :=
  ⟨fun x => by rw [if_neg (by omega)], fun _ => by omega, fun _ => .inl rfl⟩

/-- page i has been lengthened by zeros to at least n bytes. -/
def Pad (p : Pages) (i n : Nat) (p2 : Pages) : Prop :=
  p2.pg i = p.pg i ++ List.replicate (n - (p.pg i).length) 0 ∧ ∀ j, j ≠ i → p2.pg j = p.pg j

theorem getD_zeros (l : List Int) (m x : Nat) : (l ++ List.replicate m 0).getD x 0 = l.getD x 0 := by
  simp only [List.getD_eq_getElem?_getD, List.getElem?_append]
  split
  · rfl
  · rename_i h
    rw [List.getElem?_replicate, List.getElem?_eq_none (by omega : l.length ≤ x)]
    split <;> rfl

theorem getD_splice (L s : List Int) (a x : Nat) (h : a + s.length ≤ L.length) : (splice L a s).getD x 0 = if a ≤ x ∧ x < a + s.length then s.getD (x - a) 0 else L.getD x 0 := by
  unfold splice
  simp only [List.getD_eq_getElem?_getD, List.getElem?_append, List.length_take, List.getElem?_take, List.getElem?_drop]
  have e : min a L.length = a := by omega
  rw [e]
  by_cases h1 : x < a
  · rw [if_pos h1, if_pos h1, if_neg (by omega)]
  · rw [if_neg h1]
    by_cases h2 : x - a < s.length
    · rw [if_pos h2, if_pos (by omega)]
    · rw [if_neg h2, if_neg (by omega)]
      congr 2
      omega

theorem getD_part (l : List Int) (k sp x : Nat) (h : x < sp) : ((l.drop k).take sp).getD x 0 = l.getD (k + x) 0 := by
  simp only [List.getD_eq_getElem?_getD, List.getElem?_take, List.getElem?_drop]
  rw [if_pos h]

/-- one round: page i is lengthened where it must be, and the next sp bytes are laid over it. -/
theorem Wr.round {p p' p2 p3 : Pages} {off k i a sp : Nat} {l : List Int} (h : Wr p off l k p') (hp : Pad p' i (a + sp) p2) (hi : i = (off + k) / 65536) (ha : a = (off + k) % 65536)
    (hsp : a + sp ≤ 65536) (hsp0 : 0 < sp) (hl : k + sp ≤ l.length) (h3 : p3.pg i = splice (p2.pg i) a ((l.drop k).take sp)) (h3' : ∀ j, j ≠ i → p3.pg j = p2.pg j) : Wr p off l (k + sp) p3 := by
  have hsl : ((l.drop k).take sp).length = sp := by simp; omega
  have hle : a + sp ≤ (p2.pg i).length := by rw [hp.1]; simp; omega
  refine ⟨fun x => ?_, fun j => ?_, fun j => ?_⟩
  · have hrd : rd p3 x = if off + k ≤ x ∧ x < off + k + sp then l.getD (x - off) 0 else rd p' x := by
      unfold rd
      by_cases hx : x / 65536 = i
      · rw [hx, h3, getD_splice _ _ _ _ (by rw [hsl]; exact hle), hsl, hp.1, getD_zeros]
        by_cases hc : a ≤ x % 65536 ∧ x % 65536 < a + sp
        · rw [if_pos hc, if_pos (by omega), getD_part _ _ _ _ (by omega)]
          congr 1
          omega
        · rw [if_neg hc, if_neg (by omega)]
      · rw [h3' _ hx, hp.2 _ hx, if_neg (by omega)]
    rw [hrd, h.flat x]
    by_cases h1 : off + k ≤ x ∧ x < off + k + sp
    · rw [if_pos h1, if_pos (by omega)]
    · rw [if_neg h1]
      by_cases h2 : off ≤ x ∧ x < off + k
      · rw [if_pos h2, if_pos (by omega)]
      · rw [if_neg h2, if_neg (by omega)]
  · have hh := h.lens j
    by_cases hj : j = i
    · subst hj
      have e1 : (p2.pg j).length = max (p'.pg j).length (a + sp) := by rw [hp.1]; simp; omega
      rw [h3, length_splice _ _ _ (by rw [hsl]; exact hle), e1]
      omega
    · rw [h3' j hj, hp.2 j hj]
      omega
  · by_cases hj : j = i
    · subst hj
      right
      omega
    · rw [h3' j hj, hp.2 j hj]
      rcases h.only j with e | e
      · exact .inl e
      · exact .inr (by omega)

/-- ints of a splice. -/
theorem ints_splice (L s : List Int) (a : Nat) : ints (splice L a s) = splice (ints L) a (ints s) := by
  simp [ints, splice]

theorem ints_length (l : List Int) : (ints l).length = l.length := by simp [ints]

theorem take_splice {α : Type} (cur s : List α) (n a : Nat) (h : a + s.length ≤ n) (hn : n ≤ cur.length) : (splice cur a s).take n = splice (cur.take n) a s := by
  unfold splice
  rw [List.take_append, List.take_take, List.take_append, List.take_of_length_le (by simp; omega : s.length ≤ _), List.drop_take, List.length_take]
  have e1 : min n a = a := by omega
  have e2 : min a cur.length = a := by omega
  rw [e1, e2, List.take_take]
  have e3 : min a n = a := by omega
  rw [e3]
  congr 3
  omega

theorem row_set2 {w' : World} {cb : Nat} {p : Pages} {i : Nat} {a : Option Addr} {c : Nat} {l : List Int} (hold : ∀ j, j ≠ i → w'.ownsRow (cb + 1) 5 1 (p.val j) (p.pg j).length (ints (p.pg j)))
    (hnew : w'.ownsRow (cb + 1) 5 1 (.slice a l.length c) l.length (ints l)) : ∀ j, w'.ownsRow (cb + 1) 5 1 ((p.set i a c l).val j) ((p.set i a c l).pg j).length (ints ((p.set i a c l).pg j)) := by
  intro j
  by_cases hj : j = i
  · subst hj; rw [p.set_val_same, p.set_pg_same]; exact hnew
  · rw [p.set_val_other _ _ _ _ _ hj, p.set_pg_other _ _ _ _ _ hj]; exact hold j hj

section
variable {w w1 : World} {cb cnt : Nat} {sz : Int} {r : Option Nat} {p : Pages}

/-- a content behind a copy into the row of page i. -/
theorem con_copied (h : Con w cb cnt sz r p) (i g cap a : Nat) (hv : p.val i = .slice (some ⟨g, 0, none⟩) (p.pg i).length cap) (cur : List Value) (hcap : cur.length = cap)
    (htk : cur.take (p.pg i).length = ints (p.pg i)) (s : List Int) (hs : a + s.length ≤ (p.pg i).length) (hlc : (p.pg i).length ≤ cap) (hcm : cap ≤ maxLen) (hcg : cb < g)
    (hg1 : w1.heap[g]? = some (.cells (splice cur a (ints s)).toArray 5 (0, 0))) (hgr : w.grownBy w1 (some g)) :
    Con w1 cb cnt sz r (p.set i (p.pa i) (p.pc i) (splice (p.pg i) a s)) := by
  have hlen : (splice (p.pg i) a s).length = (p.pg i).length := length_splice _ _ _ hs
  have hob : (p.val i).ownBlock = some g := by rw [hv]; rfl
  have hsame : Value.slice (p.pa i) (splice (p.pg i) a s).length (p.pc i) = p.val i := by rw [hlen]; rfl
  have hvs : ∀ j, (p.set i (p.pa i) (p.pc i) (splice (p.pg i) a s)).val j = p.val j := by
    intro j
    by_cases hj : j = i
    · subst hj; rw [p.set_val_same, hsame]
    · exact p.set_val_other _ _ _ _ _ hj
  have hnew : w1.ownsRow (cb + 1) 5 1 (.slice (p.pa i) (splice (p.pg i) a s).length (p.pc i)) (splice (p.pg i) a s).length (ints (splice (p.pg i) a s)) := by
    rw [hsame, hlen, hv]
    refine ⟨by rw [ints_length, hlen, Nat.mul_one], .inr ⟨g, cap, _, rfl, hcg, hg1, hlc, hcm, ?_, ?_⟩⟩
    · rw [List.size_toArray, length_splice _ _ _ (by rw [ints_length]; omega)]; omega
    · rw [List.toList_toArray, Nat.mul_one, take_splice _ _ _ _ (by rw [ints_length]; omega) (by omega), htk, ints_splice]
  refine ⟨?_, ?_, row_set2 ?_ hnew, ?_, len_set h i _ _ _ (by rw [hlen]; exact h.len i)⟩
  · rw [hgr.block cb h.lt (by simp; omega), hvs]
    exact h.blk
  · rcases h.mp with ⟨hr, hn⟩ | ⟨mb, D, h1, h2, h3, h4⟩
    · exact .inl ⟨hr, fun j hj => by rw [hvs]; exact hn j hj⟩
    · refine .inr ⟨mb, D, h1, h2, h3.kept hgr ?_, ⟨fun j hj => by rw [hvs]; exact h4.1 j hj, h4.2⟩⟩
      rcases row_not_map (h.row i) h3 with e | e
      · rw [hob] at e; cases e
      · rw [hob] at e; exact Ne.symm e
  · intro j hj
    exact (h.row j).kept hgr (by have := h.apart j i hj; rw [hob] at this; exact this)
  · intro j k hjk
    rw [hvs, hvs]
    exact h.apart j k hjk
end
end Go.Proofs.Qxb6003812a.ContentPlain
