/-
  content.setPage (43): the contract over 'Con'.
-/
import Derived.Test.Qxb6003812aContentPage
namespace Go.Proofs.Qxb6003812a.ContentSet
open Go.RowKit Go.Proofs.Qxb6003812a.ContentPage

section
variable {w : World} {cb cnt : Nat} {sz : Int} {r : Option Nat} {p : Pages}

theorem row_not_map {base : Nat} {v : Value} {n : Nat} {xs : List Value} (h : w.ownsRow base 5 1 v n xs) {mb m : Nat} {D : DataW Value} (hm : w.ownsMap Try.prog 2 tokR mb m D) : v.ownBlock = none ∨ v.ownBlock ≠ some mb := by
  rcases h.2 with ⟨rfl, _⟩ | ⟨g, cap, cur, rfl, _, hg, _⟩
  · exact .inl rfl
  · refine .inr fun e => ?_
    simp only [Value.ownBlock, Option.some.injEq] at e
    subst e
    obtain ⟨es, clock, hb, _⟩ := hm
    rw [hg] at hb
    cases hb

theorem row_lt {base : Nat} {v : Value} {n : Nat} {xs : List Value} (h : w.ownsRow base 5 1 v n xs) {mb : Nat} (hm : w.heap.size ≤ mb) : v.ownBlock = none ∨ v.ownBlock ≠ some mb := by
  cases hv : v.ownBlock with
  | none => exact .inl rfl
  | some k =>
    refine .inr fun e => ?_
    have := (h.lt k hv).2
    simp only [Option.some.injEq] at e
    omega

theorem apart_set (h : Con w cb cnt sz r p) (i : Nat) (a : Option Addr) (c : Nat) (l : List Int)
    (hap : ∀ j, j ≠ i → (p.val j).ownBlock = none ∨ (p.val j).ownBlock ≠ (Value.slice a l.length c).ownBlock) :
    ∀ j k, j ≠ k → ((p.set i a c l).val j).ownBlock = none ∨ ((p.set i a c l).val j).ownBlock ≠ ((p.set i a c l).val k).ownBlock := by
  intro j k hjk
  by_cases hj : j = i
  · subst hj
    rw [p.set_val_same, p.set_val_other _ _ _ _ _ (Ne.symm hjk)]
    rcases hap k (Ne.symm hjk) with hn | hn
    · cases ha : (Value.slice a l.length c).ownBlock with
      | none => exact .inl rfl
      | some x => exact .inr (by rw [hn]; simp)
    · exact .inr (Ne.symm hn)
  · rw [p.set_val_other _ _ _ _ _ hj]
    by_cases hk : k = i
    · subst hk
      rw [p.set_val_same]
      exact hap j hj
    · rw [p.set_val_other _ _ _ _ _ hk]
      exact h.apart j k hjk

theorem len_set (h : Con w cb cnt sz r p) (i : Nat) (a : Option Addr) (c : Nat) (l : List Int) (hl : l.length ≤ 65536) : ∀ j, ((p.set i a c l).pg j).length ≤ 65536 := by
  intro j
  by_cases hj : j = i
  · subst hj; rw [p.set_pg_same]; exact hl
  · rw [p.set_pg_other _ _ _ _ _ hj]; exact h.len j

/-- the rows behind a step that keeps every row's block. -/
theorem row_set {w' : World} {i : Nat} {a : Option Addr} {c : Nat} {l : List Int} (hold : ∀ j, w'.ownsRow (cb + 1) 5 1 (p.val j) (p.pg j).length (ints (p.pg j)))
    (hnew : w'.ownsRow (cb + 1) 5 1 (.slice a l.length c) l.length (ints l)) : ∀ j, w'.ownsRow (cb + 1) 5 1 ((p.set i a c l).val j) ((p.set i a c l).pg j).length (ints ((p.set i a c l).pg j)) := by
  intro j
  by_cases hj : j = i
  · subst hj; rw [p.set_val_same, p.set_pg_same]; exact hnew
  · rw [p.set_val_other _ _ _ _ _ hj, p.set_pg_other _ _ _ _ _ hj]; exact hold j

theorem isKeyLit (i : Nat) (hi : i ≤ 1000000) : WideAt.IsKeyLit (.int .i64 i) := law.key (key_is i hi)

theorem map_put {D : DataW Value} (hD : Go.Maps.IsMap D) {pv pv' : Nat → Value} (i : Nat) (hi : i ≤ 1000000) (v : Value) (h : ∀ j : Nat, 1 ≤ j → D.atKey (.int .i64 j) (.held (.slice none 0 0)) = .held (pv j))
    (hs : pv' i = v) (ho : ∀ j, 1 ≤ j → j ≠ i → pv' j = pv j) : ∀ j : Nat, 1 ≤ j → (D.put (.int .i64 i) (.held v)).atKey (.int .i64 j) (.held (.slice none 0 0)) = .held (pv' j) := by
  intro j hj
  by_cases e : j = i
  · subst e
    rw [Go.Maps.atKey_put_same hD (isKeyLit j hi), hs]
  · rw [Go.Maps.atKey_put_other (by intro h'; simp only [Lit.int.injEq, true_and] at h'; omega), h j hj, ho j hj e]

theorem has_put {D : DataW Value} (hD : ∀ kl, Go.Maps.has D kl = true → ∃ i : Nat, 1 ≤ i ∧ i ≤ 1000000 ∧ kl = .int .i64 i) (i : Nat) (h1 : 1 ≤ i) (hi : i ≤ 1000000) (d : DataW Value) : ∀ kl, Go.Maps.has (D.put (.int .i64 i) d) kl = true → ∃ i : Nat, 1 ≤ i ∧ i ≤ 1000000 ∧ kl = .int .i64 i := by
  intro kl h
  by_cases e : kl = .int .i64 i
  · exact ⟨i, h1, hi, e⟩
  · rw [Go.Maps.has_put_other e] at h
    exact hD kl h

/-- content.setPage. -/
theorem setPage_call (h : Con w cb cnt sz r p) (i : Nat) (hi : i ≤ 1000000) (hcnt : cnt ≤ 1000000) (a : Option Addr) (c : Nat) (l : List Int) (hl : l.length ≤ 65536)
    (hrow : w.ownsRow (cb + 1) 5 1 (.slice a l.length c) l.length (ints l))
    (hap : ∀ j, j ≠ i → (p.val j).ownBlock = none ∨ (p.val j).ownBlock ≠ (Value.slice a l.length c).ownBlock) :
    Calls Try.prog 43 #[.pointer (some ⟨cb, 0, none⟩), .int .i64 i, .slice a l.length c] w fun e w' =>
      e = .returned (.tuple #[]) ∧ ∃ r', Con w' cb (cnt + 1) sz r' (p.set i a c l) ∧ Below cb w w' := by
  have hml : maxLen = 9223372036854775807 := rfl
  by_cases h0 : i = 0
  · subst h0
    refine (set_zero cb a l.length c _ w h.c1 (h.free 1)).mono ?_
    rintro e w' ⟨rfl, rfl⟩
    refine ⟨rfl, r, ⟨?_, ?_, row_set (fun j => row_setCell (h.row j) (by simp) _) (row_setCell hrow (by simp) _), apart_set h 0 a c l hap, len_set h 0 a c l hl⟩, (Below.refl cb w).setCell (p := ⟨cb, 1, none⟩) (Nat.le_refl cb) _⟩
    · rw [heap_setCell_blk h.blk, p.set_val_same]
      rfl
    · rcases h.mp with ⟨rfl, hn⟩ | ⟨mb, D, rfl, hlt, hown, hat⟩
      · exact .inl ⟨rfl, fun j hj => by rw [p.set_val_other _ _ _ _ _ (by omega)]; exact hn j hj⟩
      · exact .inr ⟨mb, D, rfl, hlt, (hown.setCell (by simp; omega) _).mono (by omega), ⟨fun j hj => by rw [p.set_val_other _ _ _ _ _ (by omega)]; exact hat.1 j hj, hat.2⟩⟩
  · have hib : ((i : Int) == 0) = false := by rw [beq_eq_false_iff_ne]; omega
    have hv0 : (p.set i a c l).val 0 = p.val 0 := p.set_val_other _ _ _ _ _ (Ne.symm h0)
    rcases h.mp with ⟨rfl, hn⟩ | ⟨mb, D, rfl, hlt, hown, hat⟩
    · have hsz : (w.setCell ⟨cb, 2, none⟩ (.map (some w.heap.size))).heap.size = w.heap.size := by simp [World.setCell]
      have hmade := World.ownsMap_made (w.setCell ⟨cb, 2, none⟩ (.map (some w.heap.size))) Try.prog 2 tokR
      rw [hsz] at hmade
      obtain ⟨w1, hrun, hown1, hgr⟩ := hmade.update law Try.underlying59 (by omega) (key_is i hi) (val := .slice a l.length c) rfl
      refine (set_new cb i hib a l.length c w w1 h.c2 (h.free 2) hrun h.lt).mono ?_
      rintro e w' ⟨rfl, rfl⟩
      have hk : ∀ {v : Value} {n : Nat} {xs : List Value}, w.ownsRow (cb + 1) 5 1 v n xs → w'.ownsRow (cb + 1) 5 1 v n xs := fun {v n xs} hr =>
        ((row_setCell hr (by simp) _).alloc _).kept hgr (row_lt hr (Nat.le_refl _))
      refine ⟨rfl, some w.heap.size, ⟨?_, ?_, row_set (fun j => hk (h.row j)) (hk hrow), apart_set h i a c l hap, len_set h i a c l hl⟩, ?_⟩
      · rw [hgr.block cb (by simp [hsz]; have := h.lt; omega) (by have := h.lt; simp; omega), Below.heap_alloc _ _ _ (by rw [hsz]; exact h.lt), heap_setCell_blk h.blk, hv0]
        rfl
      · refine .inr ⟨w.heap.size, _, rfl, h.lt, hown1.mono (by omega), map_put (pv := fun _ => .slice none 0 0) ⟨[], rfl⟩ i hi _ (fun j hj => rfl) (p.set_val_same _ _ _ _) (fun j hj1 hj => by rw [p.set_val_other _ _ _ _ _ hj]; exact hn j hj1), has_put (fun kl h => by simp [Go.Maps.has] at h) i (by omega) hi _⟩
      · exact (((Below.refl cb w).setCell (p := ⟨cb, 2, none⟩) (Nat.le_refl cb) _).alloc (by rw [hsz]; have := h.lt; omega) _).grown hgr (by simp [hsz]; have := h.lt; omega) (fun k hk => by simp at hk; have := h.lt; omega)
    · obtain ⟨w1, hrun, hown1, hgr⟩ := hown.update law Try.underlying59 (by omega) (key_is i hi) (val := .slice a l.length c) rfl
      refine (set_old cb mb i hib a l.length c w w1 h.c2 hrun).mono ?_
      rintro e w' ⟨rfl, rfl⟩
      have hk : ∀ {v : Value} {n : Nat} {xs : List Value}, w.ownsRow (cb + 1) 5 1 v n xs → w'.ownsRow (cb + 1) 5 1 v n xs := fun {v n xs} hr => hr.kept hgr (row_not_map hr hown)
      refine ⟨rfl, some mb, ⟨?_, ?_, row_set (fun j => hk (h.row j)) (hk hrow), apart_set h i a c l hap, len_set h i a c l hl⟩, ?_⟩
      · rw [hgr.block cb h.lt (by simp; omega), h.blk, hv0]
      · exact .inr ⟨mb, _, rfl, hlt, hown1, map_put hown.isMap i hi _ hat.1 (p.set_val_same _ _ _ _) (fun j _ hj => p.set_val_other _ _ _ _ _ hj), has_put hat.2 i (by omega) hi _⟩
      · exact (Below.refl _ _).grown hgr (by have := h.lt; omega) (fun k hk => by simp at hk; omega)
end
end Go.Proofs.Qxb6003812a.ContentSet
