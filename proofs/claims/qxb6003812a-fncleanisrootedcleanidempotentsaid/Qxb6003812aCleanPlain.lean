/-
  The plain law of 'FnCleanIsRootedCleanIdempotent': over lists of bytes alone, no Go in sight.
-/
import Derived.Lib.CleanSame
namespace Go.Proofs.Qxb6003812a.CleanPlain
open Go.Lib.Pa

/-- an element that is neither empty nor '.' nor '..'. -/
def good (e : List UInt8) : Bool := !(decide (e = []) || decide (e = [46]) || decide (e = [46, 46]))

theorem good_iff (e : List UInt8) : good e = true ↔ (e ≠ [] ∧ e ≠ [46] ∧ e ≠ [46, 46]) := by
  simp [good, and_assoc]

def Ok (e : List UInt8) : Prop := good e = true ∧ (47 : UInt8) ∉ e

/-- as zzCleanElems goes: 'acc' what stands since the last slash. -/
def chk : List UInt8 → List UInt8 → Bool
  | acc, [] => good acc
  | acc, c :: t => if c = 47 then good acc && chk [] t else chk (acc ++ [c]) t

/-- underglass.Clean. -/
def rooted (l : List UInt8) : List UInt8 := if l.head? = some 47 then l else 47 :: l
def ucl (l : List UInt8) : List UInt8 := cleanEls (rooted l)

theorem els_ne (l : List UInt8) : els l ≠ [] := by
  cases l with
  | nil => simp [els]
  | cons c t =>
    unfold els
    split
    · simp
    · split <;> simp

theorem els_no47 (l : List UInt8) : ∀ e ∈ els l, (47 : UInt8) ∉ e := by
  induction l with
  | nil => simp [els]
  | cons c t ih =>
    unfold els
    split
    · intro e he
      rcases List.mem_cons.1 he with rfl | he
      · simp
      · exact ih e he
    · rename_i hc
      split
      · rename_i e r he
        rw [he] at ih
        intro x hx
        rcases List.mem_cons.1 hx with rfl | hx
        · have := ih e (by simp)
          simp only [List.mem_cons, not_or]
          exact ⟨fun h => hc h.symm, this⟩
        · exact ih x (by simp [hx])
      · intro x hx
        rcases List.mem_cons.1 hx with rfl | hx
        · simp only [List.mem_cons, List.not_mem_nil, or_false]
          exact fun h => hc h.symm
        · simp at hx

def tot (A : List (List UInt8)) : Nat := (A.map fun e => e.length + 1).sum

theorem els_tot (l : List UInt8) : tot (els l) = l.length + 1 := by
  induction l with
  | nil => simp [els, tot]
  | cons c t ih =>
    unfold els
    split
    · simp only [tot, List.map_cons, List.sum_cons, List.length_nil, List.length_cons] at ih ⊢
      omega
    · have hne := els_ne t
      split
      · rename_i e r he
        rw [he] at ih
        simp only [tot, List.map_cons, List.sum_cons, List.length_cons] at ih ⊢
        omega
      · rename_i he
        exact absurd he hne

theorem step_ok {st : List (List UInt8)} {e : List UInt8} (hst : ∀ x ∈ st, Ok x) (he : (47 : UInt8) ∉ e) : ∀ x ∈ cleanStep true st e, Ok x := by
  unfold cleanStep
  split
  · exact hst
  · rename_i h1
    split
    · split
      · rename_i y r
        split
        · rename_i hy
          have := (hst y (by simp)).1
          rw [hy] at this
          exact absurd this (by decide)
        · exact fun x hx => hst x (by simp [hx])
      · simp
    · rename_i h2
      intro x hx
      rcases List.mem_cons.1 hx with rfl | hx
      · refine ⟨?_, he⟩
        rw [good_iff]
        exact ⟨fun h => h1 (.inl h), fun h => h1 (.inr h), h2⟩
      · exact hst x hx

theorem fold_ok : ∀ (A st : List (List UInt8)), (∀ x ∈ st, Ok x) → (∀ e ∈ A, (47 : UInt8) ∉ e) → ∀ x ∈ A.foldl (cleanStep true) st, Ok x
  | [], _, hst, _ => hst
  | e :: A, st, hst, hA => fold_ok A (cleanStep true st e) (step_ok hst (hA e (by simp))) (fun x hx => hA x (by simp [hx]))

theorem step_tot (st : List (List UInt8)) (e : List UInt8) : tot (cleanStep true st e) ≤ tot st + (e.length + 1) := by
  unfold cleanStep
  split
  · omega
  · split
    · split
      · split
        · simp only [tot, List.map_cons, List.sum_cons]; omega
        · simp only [tot, List.map_cons, List.sum_cons]; omega
      · simp [tot]
    · simp only [tot, List.map_cons, List.sum_cons]; omega

theorem fold_tot : ∀ (A st : List (List UInt8)), tot (A.foldl (cleanStep true) st) ≤ tot st + tot A
  | [], st => by simp [tot]
  | e :: A, st => by
    have h1 := fold_tot A (cleanStep true st e)
    have h2 := step_tot st e
    simp only [List.foldl_cons]
    simp only [tot, List.map_cons, List.sum_cons] at *
    omega

theorem step_push {st : List (List UInt8)} {e : List UInt8} (he : Ok e) : cleanStep true st e = e :: st := by
  have h := (good_iff e).1 he.1
  unfold cleanStep
  rw [if_neg (fun h' => h'.elim h.1 h.2.1), if_neg h.2.2]

theorem fold_push : ∀ (A st : List (List UInt8)), (∀ e ∈ A, Ok e) → A.foldl (cleanStep true) st = A.reverse ++ st
  | [], _, _ => rfl
  | e :: A, st, hA => by
    rw [List.foldl_cons, step_push (hA e (by simp)), fold_push A _ (fun x hx => hA x (by simp [hx]))]
    simp

theorem els_append47 (e l : List UInt8) (he : (47 : UInt8) ∉ e) : els (e ++ 47 :: l) = e :: els l := by
  induction e with
  | nil => simp [els]
  | cons c t ih =>
    simp only [List.mem_cons, not_or] at he
    rw [List.cons_append, els, if_neg (fun h => he.1 h.symm), ih he.2]

theorem els_plain (e : List UInt8) (he : (47 : UInt8) ∉ e) : els e = [e] := by
  induction e with
  | nil => simp [els]
  | cons c t ih =>
    simp only [List.mem_cons, not_or] at he
    rw [els, if_neg (fun h => he.1 h.symm), ih he.2]

abbrev inter (A : List (List UInt8)) : List UInt8 := ([47] : List UInt8).intercalate A

theorem inter_nil : inter [] = [] := rfl
theorem inter_one (e : List UInt8) : inter [e] = e := by simp [inter, List.intercalate, List.intersperse]
theorem inter_cons (e x : List UInt8) (A : List (List UInt8)) : inter (e :: x :: A) = e ++ 47 :: inter (x :: A) := by
  simp [inter, List.intercalate, List.intersperse]

theorem els_inter : ∀ A : List (List UInt8), A ≠ [] → (∀ e ∈ A, (47 : UInt8) ∉ e) → els (inter A) = A
  | [], h, _ => absurd rfl h
  | [e], _, hA => by rw [inter_one, els_plain e (hA e (by simp))]
  | e :: x :: A, _, hA => by
    rw [inter_cons, els_append47 e _ (hA e (by simp)), els_inter (x :: A) (by simp) (fun y hy => hA y (List.mem_cons_of_mem _ hy))]

theorem inter_len : ∀ A : List (List UInt8), (inter A).length ≤ tot A - 1
  | [] => by simp
  | [e] => by rw [inter_one]; simp [tot]
  | e :: x :: A => by
    have ih := inter_len (x :: A)
    rw [inter_cons]
    simp only [tot, List.map_cons, List.sum_cons, List.length_append, List.length_cons] at ih ⊢
    omega

def kept (t : List UInt8) : List (List UInt8) := ((els t).foldl (cleanStep true) []).reverse

theorem kept_ok (t : List UInt8) : ∀ x ∈ kept t, Ok x := by
  intro x hx
  exact fold_ok (els t) [] (by simp) (els_no47 t) x (List.mem_reverse.1 hx)

theorem tot_reverse (A : List (List UInt8)) : tot A.reverse = tot A := by
  simp [tot, List.map_reverse, List.sum_reverse]

theorem kept_tot (t : List UInt8) : tot (kept t) ≤ t.length + 1 := by
  have h := fold_tot (els t) []
  rw [els_tot] at h
  unfold kept
  rw [tot_reverse]
  simpa [tot] using h

theorem cleanEls_root (t : List UInt8) : cleanEls (47 :: t) = 47 :: inter (kept t) := by
  rw [cleanEls_abs _ (by simp) (by simp)]
  rw [els, if_pos rfl]
  simp only [List.foldl_cons]
  rfl

theorem kept_inter (K : List (List UInt8)) (hK : ∀ e ∈ K, Ok e) : kept (inter K) = K := by
  unfold kept
  by_cases h : K = []
  · subst h; rw [inter_nil]; rfl
  · rw [els_inter K h (fun e he => (hK e he).2), fold_push K [] hK]
    simp

theorem rooted_form (l : List UInt8) : ∃ t, rooted l = 47 :: t ∧ t.length ≤ l.length := by
  unfold rooted
  split
  · rename_i h
    cases l with
    | nil => simp at h
    | cons c t =>
      simp at h
      subst h
      exact ⟨t, rfl, by simp⟩
  · exact ⟨l, rfl, Nat.le_refl _⟩

/-- the form of what Clean gives. -/
theorem ucl_form (l : List UInt8) : ∃ K : List (List UInt8), (∀ e ∈ K, Ok e) ∧ ucl l = 47 :: inter K ∧ (ucl l).length ≤ l.length + 1 := by
  obtain ⟨t, ht, hl⟩ := rooted_form l
  have h : ucl l = 47 :: inter (kept t) := by unfold ucl; rw [ht, cleanEls_root]
  refine ⟨kept t, kept_ok t, h, ?_⟩
  have h1 := kept_tot t
  have h2 := inter_len (kept t)
  rw [h, List.length_cons]
  omega

theorem ucl_fix (K : List (List UInt8)) (hK : ∀ e ∈ K, Ok e) : ucl (47 :: inter K) = 47 :: inter K := by
  unfold ucl rooted
  rw [if_pos (by simp), cleanEls_root, kept_inter K hK]

theorem ucl_idem (l : List UInt8) : ucl (ucl l) = ucl l := by
  obtain ⟨K, hK, h, _⟩ := ucl_form l
  rw [h, ucl_fix K hK]

theorem kept_slash (t : List UInt8) : kept (47 :: t) = kept t := by
  unfold kept
  rw [els, if_pos rfl]
  rfl

theorem ucl_slash (l : List UInt8) : ucl (47 :: l) = ucl l := by
  unfold ucl rooted
  rw [if_pos (by simp)]
  split
  · rename_i h
    cases l with
    | nil => simp at h
    | cons c t =>
      simp at h
      subst h
      rw [cleanEls_root, cleanEls_root, kept_slash]
  · rfl

theorem chk_no47 : ∀ (e acc : List UInt8), (47 : UInt8) ∉ e → chk acc e = good (acc ++ e)
  | [], acc, _ => by simp [chk]
  | c :: t, acc, h => by
    simp only [List.mem_cons, not_or] at h
    rw [chk, if_neg (fun h' => h.1 h'.symm), chk_no47 t _ h.2]
    simp

theorem chk_47 (l : List UInt8) : ∀ (e acc : List UInt8), (47 : UInt8) ∉ e → chk acc (e ++ 47 :: l) = (good (acc ++ e) && chk [] l)
  | [], acc, _ => by simp [chk]
  | c :: t, acc, h => by
    simp only [List.mem_cons, not_or] at h
    rw [List.cons_append, chk, if_neg (fun h' => h.1 h'.symm), chk_47 l t _ h.2]
    simp

theorem chk_inter : ∀ K : List (List UInt8), K ≠ [] → (∀ e ∈ K, Ok e) → chk [] (inter K) = true
  | [], h, _ => absurd rfl h
  | [e], _, hK => by
    have h := hK e (by simp)
    rw [inter_one, chk_no47 e [] h.2]
    simpa using h.1
  | e :: x :: A, _, hK => by
    have h := hK e (by simp)
    rw [inter_cons, chk_47 _ e [] h.2, chk_inter (x :: A) (by simp) (fun y hy => hK y (List.mem_cons_of_mem _ hy))]
    simpa using h.1

/-- what the law's text asks of the cleaned name. -/
theorem ucl_asked (l : List UInt8) : ∃ t, ucl l = 47 :: t ∧ (ucl l).length ≤ l.length + 1 ∧ (t = [] ∨ (t ≠ [] ∧ chk [] t = true)) := by
  obtain ⟨K, hK, h, hl⟩ := ucl_form l
  refine ⟨inter K, h, hl, ?_⟩
  by_cases hk : K = []
  · subst hk; exact .inl rfl
  · have hc := chk_inter K hk hK
    refine .inr ⟨?_, hc⟩
    intro h0
    rw [h0] at hc
    exact absurd hc (by decide)
end Go.Proofs.Qxb6003812a.CleanPlain
