/-
  A law that the kit lacks: 'm[k] = v' at a key THAT IS THERE, in the round of a range over that very map.
-/
import Derived.Maps.RangeWalk
import Derived.WalkKit
namespace Go.Proofs.Qxb6003812a.MapStore
open Go Go.ChangeMaps Go.MapKept Go.WideShapes
open Go.WideElems (Fit rd rg pl rd_key rd_val rg_of other_key rd_mk)
open Go.Maps (Keyed)

section
variable {H : Type} {P : Program} {k : TypeId} {R : Value → Option (DataW H × List MemPlace)} {w : World} {b r n : Nat} {D : DataW H} {left : Lit → Bool} {cnt : Nat}

theorem filter_born (l : List MapEntry) (seen : Array Nat) : ∀ (j : Nat) (e0 e1 : MapEntry), l[j]? = some e0 → e1.born = e0.born →
    ((l.set j e1).filter fun e => !seen.contains e.born).length = (l.filter fun e => !seen.contains e.born).length := by
  induction l with
  | nil => intro j e0 e1 h; simp at h
  | cons x t ih =>
    intro j e0 e1 h hb
    cases j with
    | zero =>
      simp only [List.getElem?_cons_zero, Option.some.injEq] at h
      subst h
      simp only [List.set_cons_zero, List.filter_cons, hb]
      split <;> simp
    | succ j =>
      simp only [List.getElem?_cons_succ] at h
      have ih' := ih j e0 e1 h hb
      simp only [List.set_cons_succ, List.filter_cons]
      split
      · simp only [List.length_cons, ih']
      · exact ih'

/-- 'm[k] = v' at a key that is there: nothing comes or goes. -/
theorem ranges_store {t e : TypeId} (h : w.ranges P k R b r n D left cnt) (K : Keyed P k) (ht : P.underlying t = some (.map k e)) (hn : n < maxLen) {key val : Value} {kl : Lit} {d : DataW H} {ps : List MemPlace}
    (hkey : keyOf P k key = some kl) (hv : R val = some (d, ps)) (hhas : Maps.has D kl = true) :
    ∃ w', (Instr.mapUpdate t (.map (some b)) key val).run P w = .ok () w' ∧ w'.ranges P k R b r n (D.put kl d) left cnt ∧ w.mapTurned w' b := by
  have hne := h.ne
  obtain ⟨es, clock, since, seen, c0, hb, F, hs, rfl, hr, hold, rfl, hl1, hl2, hsc, hsk⟩ := h
  obtain ⟨es', clock', hrun, F', hput, _, _, _⟩ := Maps.fit_store (R' := R) K ht hb F (Nat.lt_of_le_of_lt hs hn) (fun _ _ _ _ hz => hz) hkey hv
  rcases K.find w hkey es.toList F.keys with ⟨h1, h2⟩ | ⟨j, e0, h1, h2, h3⟩
  · exfalso
    obtain ⟨p, hp, hpk⟩ := List.any_eq_true.1 hhas
    obtain ⟨x, hx, rfl⟩ := List.mem_map.1 (mem_sorted.1 hp)
    obtain ⟨y, hy⟩ := F.reads x hx
    have e1 := WideAt.sameKey_eq hpk
    rw [rg_of hy] at e1
    exact h2 x hx (K.inj (e1 ▸ rd_key hy) hkey)
  · have hj : es[j]? = some e0 := by simpa using h2
    have hjl : j < es.toList.length := (List.getElem?_eq_some_iff.1 h2).1
    have hlist : (es.modify j (fun e' => { e' with key := key, val := val })).toList = es.toList.set j { e0 with key := key, val := val } := by rw [Array.toList_modify, modify_eq_set _ _ _ _ h2]
    have hrun2 : (Instr.mapUpdate t (.map (some b)) key val).run P w = .ok () (setBlock w b (.map (es.modify j (fun e' => { e' with key := key, val := val })) clock)) := by
      simp [Instr.mapUpdate, run_underlying ht, MapKept.run_getObj_map hb, K.check w false hkey, h1, hj, h3, K.stays w hkey, MapKept.run_setObj_map _ hb, Result.andThen, setBlock]
    have heq : es' = es.modify j (fun e' => { e' with key := key, val := val }) ∧ clock' = clock := by
      rw [hrun] at hrun2
      simp only [Result.ok.injEq, true_and] at hrun2
      have g1 : (setBlock w b (.map es' clock')).heap[b]? = some (.map es' clock') := heap_setBlock_same hb _
      have g2 : (setBlock w b (.map (es.modify j (fun e' => { e' with key := key, val := val })) clock)).heap[b]? = some (.map (es.modify j (fun e' => { e' with key := key, val := val })) clock) := heap_setBlock_same hb _
      rw [hrun2, g2] at g1
      simp only [Option.some.injEq, Obj.map.injEq] at g1
      exact ⟨g1.1.symm, g1.2.symm⟩
    obtain ⟨rfl, rfl⟩ := heq
    have who : ∀ x ∈ (es.modify j (fun e' => { e' with key := key, val := val })).toList, x = { e0 with key := key, val := val } ∨ x ∈ es.toList := by
      rw [hlist]
      intro x hx
      rcases List.mem_or_eq_of_mem_set hx with h' | h'
      · exact .inr h'
      · exact .inl h'
    have he0 : e0 ∈ es.toList := List.mem_of_getElem? h2
    have hk0 : (rg P k R e0).1 = kl := by
      obtain ⟨y, hy⟩ := F.reads e0 he0
      have := rd_key hy
      rw [h3, hkey] at this
      rw [rg_of hy]
      exact (Option.some.inj this).symm
    have hk1 : (rg P k R { e0 with key := key, val := val }).1 = kl := by
      rw [rg_of (rd_mk hkey hv)]
    refine ⟨_, hrun, ⟨_, clock', since, seen, c0, heap_setBlock_same hb _, F', by simpa using hs, by rw [DataW.put_eq, hput], (heap_setBlock_other hb _ hne).trans hr, ?_, ?_, ?_, ?_, hsc, hsk⟩, ⟨es, clock', _, clock', hb, rfl⟩⟩
    · intro x hx
      rcases who x hx with rfl | hx'
      · exact hold e0 he0
      · exact hold x hx'
    · have e1 : ∀ a : Array MapEntry, (leftOf a seen).size = (a.toList.filter fun e => !seen.contains e.born).length := fun a => by
        unfold leftOf
        rw [← Array.toList_filter, Array.length_toList]
      rw [e1, e1, hlist]
      exact filter_born es.toList seen j e0 _ h2 rfl
    · intro x hx
      rcases who x hx with rfl | hx'
      · rw [hk1, ← hk0]
        exact hl1 e0 he0
      · exact hl1 x hx'
    · intro kl' hkl'
      obtain ⟨x, hx, hxk⟩ := hl2 kl' hkl'
      by_cases hxe : x = e0
      · subst hxe
        refine ⟨{ x with key := key, val := val }, ?_, by rw [hk1, ← hk0, hxk]⟩
        rw [hlist]
        exact List.mem_iff_getElem.2 ⟨j, by simpa using hjl, by simp⟩
      · refine ⟨x, ?_, hxk⟩
        rw [hlist]
        obtain ⟨i, hi⟩ := List.getElem?_of_mem hx
        have hij : i ≠ j := fun e1 => hxe (by rw [e1, h2] at hi; cases hi; rfl)
        exact List.mem_of_getElem? (i := i) (by rw [List.getElem?_set_ne (Ne.symm hij)]; exact hi)
end

/-- THE SAME AT THE OPERATION, FOR THE WALK. -/
theorem wpList_store_ranges {H : Type} {P : Program} (w : World) {ops : Array Oper} {rest : List Oper} {o : Oper} {a : Act} {Q : Exit → Act → World → Prop}
    (hg : o.guard = none) (m x v : Operand) (t : TypeId) (hop : o.op = Op.mapUpdate t m x v)
    (k e : TypeId) (K : Keyed P k) (ht : P.underlying t = some (.map k e)) (R : Value → Option (DataW H × List MemPlace)) (b r n : Nat) (D : DataW H) (left : Lit → Bool) (cnt : Nat)
    (hm : a.eval m = .map (some b)) (h : w.ranges P k R b r n D left cnt) (hn : n < maxLen) (key val : Value) (kl : Lit) (hx : a.eval x = key) (hv : a.eval v = val) (hkey : keyOf P k key = some kl)
    (d : DataW H) (ps : List MemPlace) (hval : R val = some (d, ps)) (hhas : Maps.has D kl = true)
    (hK : ∀ w', w'.ranges P k R b r n (D.put kl d) left cnt → w.mapTurned w' b → wpList P ops Q rest (a.put o.dst undef) w') :
    wpList P ops Q (o :: rest) a w := by
  refine wpList_plain hg fun K' hK' => ?_
  obtain ⟨w', hrun, r1, r2⟩ := ranges_store h K ht hn hkey hval hhas
  unfold Oper.wp
  simp [execOp, hop, hm, hx, hv, hrun, Result.andThen]
  exact hK' _ _ (hK w' r1 r2)
end Go.Proofs.Qxb6003812a.MapStore
