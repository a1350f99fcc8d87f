/-
  Two laws that the kit lacks: 'append(s, make([]byte, m)...)' (which the translation lays as an append of m zeros) onto a row that the call owns, and 'clear(s)' of a part of such a row.
-/
import Derived.Maps.AppendAt
import Derived.Laws.CopyOwn
import Derived.WalkKit
import Derived.Deep.RegionLaw
namespace Go.Proofs.Qxb6003812a.BuiltinLaws
open Go Go.RowKit

theorem zeroCells_one (z : Value) (hz : z.cells = #[z]) (m : Nat) : Builtin.zeroCells z.cells m = (List.replicate m z).toArray := by
  unfold Builtin.zeroCells
  rw [hz]
  apply Array.ext
  · simp
  · intro i h1 h2
    simp [Nat.mod_one]

section
variable {P : Program} (w : World)

theorem run_zeros_room (t ti ty e : TypeId) (i : TypeInfo) (z : Value) (ht : P.underlying t = some (.slice e)) (hti : P.underlying ti = some (.int .i64)) (hi : P.info? e = some i) (hz : i.zero = some z)
    (hsize : i.size = 1) (hby : i.bytes = 1) (hzc : z.cells = #[z]) (hz1 : z.oneCell' = true)
    (g sLen sCap : Nat) (cur : Array Value) (hg : w.heap[g]? = some (.cells cur e (0, 0))) (m : Nat) (hm : 0 < m) (hm2 : m ≤ 1000000)
    (hroom : sLen + m ≤ sCap) (hfit : sLen + m ≤ cur.size) :
    (Builtin.append_ #[t, ti] ty #[.slice (some ⟨g, 0, none⟩) sLen sCap, .int .i64 m]).run P w =
      .ok (.slice (some ⟨g, 0, none⟩) (sLen + m) sCap) (w.setRow g (cur.toList.take sLen ++ List.replicate m z ++ cur.toList.drop (sLen + m)).toArray) := by
  have hst := run_storeCells_at P g sLen e (List.replicate m z) 0 cur w hg (by simpa using hfit) (fun v hv => by rw [List.eq_of_mem_replicate hv]; exact hz1)
  simp only [Nat.add_zero, List.length_replicate] at hst
  have e1 : ¬ ((m : Int) < 0) := by omega
  have e2 : ¬ ((281474976710656 : Int) < (m : Int)) := by omega
  have e3 : IntKind.i64.wrap (m : Int) = (m : Int) := by rw [IntKind.wrap_i64]; omega
  have e4 : ¬ m = 0 := by omega
  simp [Builtin.append_, run_underlying ht, run_underlying hti, sizeOf, typeInfo, zeroValue, hi, hz, hsize, hby, asInt, asIntOf, e1, e2, e3, e4, hroom, zeroCells_one z hzc, Addr.add_lit, hst]

theorem run_zeros_nil (t ti ty e : TypeId) (i : TypeInfo) (z : Value) (ht : P.underlying t = some (.slice e)) (hti : P.underlying ti = some (.int .i64)) (hi : P.info? e = some i) (hz : i.zero = some z)
    (hsize : i.size = 1) (hby : i.bytes = 1) (hzc : z.cells = #[z]) (m : Nat) (hm : 0 < m) (hm2 : m ≤ 1000000) :
    (Builtin.append_ #[t, ti] ty #[.slice none 0 0, .int .i64 m]).run P w =
      .ok (.slice (some ⟨w.heap.size, 0, none⟩) m (grownCap w m 0 e)) (w.drew.alloc (.cells (List.replicate m z ++ List.replicate (grownCap w m 0 e - m) z).toArray e)) := by
  have e1 : ¬ ((m : Int) < 0) := by omega
  have e2 : ¬ ((281474976710656 : Int) < (m : Int)) := by omega
  have e3 : IntKind.i64.wrap (m : Int) = (m : Int) := by rw [IntKind.wrap_i64]; omega
  have e4 : ¬ m = 0 := by omega
  have e5 : ¬ (9223372036854775807 < (m : Int)) := by omega
  have e6 : ¬ (281474976710656 < Builtin.nextslicecap m 0) := by rw [nextslicecap_zero hm]; omega
  simp [Builtin.append_, run_underlying ht, run_underlying hti, sizeOf, typeInfo, zeroValue, hi, hz, hsize, hby, asInt, asIntOf, e1, e2, e3, e4, e5, e6, zeroCells_one z hzc, Question.forced, run_firstCells_none, newRow, grownCap]

theorem run_zeros_grow (t ti ty e : TypeId) (i : TypeInfo) (z : Value) (ht : P.underlying t = some (.slice e)) (hti : P.underlying ti = some (.int .i64)) (hi : P.info? e = some i) (hz : i.zero = some z)
    (hsize : i.size = 1) (hby : i.bytes = 1) (hzc : z.cells = #[z]) (b : Addr) (sLen sCap : Nat) (olds : List Value) (hlo : olds.length = sLen) (holds : ∀ j v, olds[j]? = some v → w.cell? (b.add j) = some v)
    (m : Nat) (hm : 0 < m) (hm2 : sLen + m ≤ 1000000) (hg : sCap < sLen + m) :
    (Builtin.append_ #[t, ti] ty #[.slice (some b) sLen sCap, .int .i64 m]).run P w =
      .ok (.slice (some ⟨w.heap.size, 0, none⟩) (sLen + m) (grownCap w (sLen + m) sCap e))
        (w.drew.alloc (.cells (olds ++ List.replicate m z ++ List.replicate (grownCap w (sLen + m) sCap e - (sLen + m)) z).toArray e)) := by
  have e1 : ¬ ((m : Int) < 0) := by omega
  have e2 : ¬ ((281474976710656 : Int) < (m : Int)) := by omega
  have e3 : IntKind.i64.wrap (m : Int) = (m : Int) := by rw [IntKind.wrap_i64]; omega
  have e4 : ¬ m = 0 := by omega
  have e5 : ¬ (9223372036854775807 < (sLen : Int) + (m : Int)) := by omega
  have e6 : ¬ (281474976710656 < Builtin.nextslicecap (sLen + m) sCap) := by
    have := growslice_fits (bytes := 1) hg (by omega)
    omega
  have e7 : ¬ (sLen + m ≤ sCap) := by omega
  have hfo := run_firstCells_some (P := P) w.drew 1 sLen b sLen sCap olds (by omega) (by simpa using holds)
  simp [Builtin.append_, run_underlying ht, run_underlying hti, sizeOf, typeInfo, zeroValue, hi, hz, hsize, hby, asInt, asIntOf, e1, e2, e3, e4, e5, e6, e7, zeroCells_one z hzc, Question.forced, hfo, newRow, grownCap]
  congr 2
  apply Array.ext'
  simp

/-- m zeros onto a slice that is owned. -/
theorem run_zeros_own (base : Nat) (t ti ty e : TypeId) (i : TypeInfo) (z : Value) (ht : P.underlying t = some (.slice e)) (hti : P.underlying ti = some (.int .i64)) (hi : P.info? e = some i) (hz : i.zero = some z)
    (hsize : i.size = 1) (hby : i.bytes = 1) (hzc : z.cells = #[z]) (hz1 : z.oneCell' = true)
    (v : Value) (n : Nat) (xs : List Value) (hown : w.ownsRow base e 1 v n xs) (m : Nat) (hm : 0 < m) (hm2 : n + m ≤ 1000000) (hbase : base ≤ w.heap.size) :
    ∃ g cap w', (Builtin.append_ #[t, ti] ty #[v, .int .i64 m]).run P w = .ok (.slice (some ⟨g, 0, none⟩) (n + m) cap) w' ∧
      w'.ownsRow base e 1 (.slice (some ⟨g, 0, none⟩) (n + m) cap) (n + m) (xs ++ List.replicate m z) ∧ w.grownBy w' v.ownBlock ∧
      (v.ownBlock = some g ∨ g = w.heap.size) ∧ w'.ownsRow base e 1 v n xs := by
  have hml : maxLen = 9223372036854775807 := rfl
  have hxl : xs.length = n := by simpa using hown.1
  have hlen : (xs ++ List.replicate m z).length = (n + m) * 1 := by rw [List.length_append, hxl, List.length_replicate]; omega
  have grown : ∀ (old : Nat), ∀ (row : Option Nat),
      (w.drew.alloc (.cells (xs ++ List.replicate m z ++ List.replicate (grownCap w (n + m) old e - (n + m)) z).toArray e)).ownsRow base e 1
        (.slice (some ⟨w.heap.size, 0, none⟩) (n + m) (grownCap w (n + m) old e)) (n + m) (xs ++ List.replicate m z) ∧
      w.grownBy (w.drew.alloc (.cells (xs ++ List.replicate m z ++ List.replicate (grownCap w (n + m) old e - (n + m)) z).toArray e)) row := by
    intro old row
    have hge := grownCap_ge w (n + m) old e
    have hcm : grownCap w (n + m) old e ≤ maxLen := grownCap_le_maxLen w (n + m) old e (by omega)
    refine ⟨⟨hlen, .inr ⟨w.heap.size, _, _, rfl, hbase, Go.heap_alloc_new w.drew _, hge, hcm, ?_, ?_⟩⟩, ⟨rfl, rfl, rfl, by simp, fun k hk _ => by first | exact Go.heap_alloc_old w.drew _ hk | exact Go.heap_alloc_old w.drew _ k hk⟩⟩
    · simp only [List.size_toArray, List.length_append, List.length_replicate, hxl]
      omega
    · rw [← hlen]
      exact List.take_left
  rcases hown.2 with ⟨rfl, rfl⟩ | ⟨g, cap, cur, rfl, hbg, hg, hnc, hcm, hcs, htake⟩
  · have hx : xs = [] := List.eq_nil_of_length_eq_zero hxl
    subst hx
    have hr := run_zeros_nil (P := P) w t ti ty e i z ht hti hi hz hsize hby hzc m hm (by omega)
    have hgr := grown 0 (Value.ownBlock (.slice none 0 0))
    simp only [Nat.zero_add, List.nil_append] at hgr ⊢
    exact ⟨_, _, _, hr, hgr.1, hgr.2, .inr rfl, World.ownsRow_nil _ _ _ _⟩
  · by_cases hroom : n + m ≤ cap
    · have hr := run_zeros_room (P := P) w t ti ty e i z ht hti hi hz hsize hby hzc hz1 g n cap cur hg m hm (by omega) hroom (by omega)
      have hgb : w.grownBy (w.setRow g (cur.toList.take n ++ List.replicate m z ++ cur.toList.drop (n + m)).toArray) (Value.ownBlock (.slice (some ⟨g, 0, none⟩) n cap)) :=
        ⟨rfl, rfl, rfl, by simp, fun k _ hk => setRow_other w g k _ (fun e => hk (by simp [Value.ownBlock, e]))⟩
      have hsz : (cur.toList.take n ++ List.replicate m z ++ cur.toList.drop (n + m)).toArray.size = cap * 1 := by
        simp only [List.size_toArray, List.length_append, List.length_take, List.length_drop, Array.length_toList, List.length_replicate]
        omega
      have htk : cur.toList.take n = xs := by simpa using htake
      refine ⟨g, cap, _, hr, ⟨hlen, .inr ⟨g, cap, _, rfl, hbg, setRow_heap w g cur _ e _ hg, hroom, hcm, hsz, ?_⟩⟩, hgb, .inl rfl, ⟨hown.1, .inr ⟨g, cap, _, rfl, hbg, setRow_heap w g cur _ e _ hg, hnc, hcm, hsz, ?_⟩⟩⟩
      · rw [htk, ← hlen]
        exact List.take_left
      · rw [htk, Nat.mul_one, ← hxl, List.append_assoc]
        exact List.take_left
    · have holds : ∀ j u, xs[j]? = some u → w.cell? ((⟨g, 0, none⟩ : Addr).add j) = some u := hown.cells (g := g) rfl
      have hr := run_zeros_grow (P := P) w t ti ty e i z ht hti hi hz hsize hby hzc ⟨g, 0, none⟩ n cap xs hxl holds m hm hm2 (by omega)
      have hgr := grown cap (Value.ownBlock (.slice (some ⟨g, 0, none⟩) n cap))
      have hk := hown.kept (grown cap none).2 (.inr (by simp [Value.ownBlock]))
      exact ⟨_, _, _, hr, hgr.1, hgr.2, .inr rfl, hk⟩

/-- THE SAME AT THE OPERATION, FOR THE WALK. -/
theorem wpList_zeros_own {ops : Array Oper} {rest : List Oper} {o : Oper} {a : Act} {Q : Exit → Act → World → Prop} (hgd : o.guard = none) (s x : Operand) (t ti : TypeId)
    (ho : o.op = .call { callee := .builtin .append, args := #[s, x], argTypes := #[t, ti] })
    (base : Nat) (e : TypeId) (i : TypeInfo) (z : Value) (ht : P.underlying t = some (.slice e)) (hti : P.underlying ti = some (.int .i64)) (hi : P.info? e = some i) (hz : i.zero = some z)
    (hsize : i.size = 1) (hby : i.bytes = 1) (hzc : z.cells = #[z]) (hz1 : z.oneCell' = true)
    (v : Value) (n : Nat) (xs : List Value) (hs : a.eval s = v) (hown : w.ownsRow base e 1 v n xs) (m : Nat) (hx : a.eval x = .int .i64 m) (hm : 0 < m) (hm2 : n + m ≤ 1000000) (hbase : base ≤ w.heap.size)
    (h : ∀ g cap w', w'.ownsRow base e 1 (.slice (some ⟨g, 0, none⟩) (n + m) cap) (n + m) (xs ++ List.replicate m z) → w.grownBy w' v.ownBlock →
      (v.ownBlock = some g ∨ g = w.heap.size) → w'.ownsRow base e 1 v n xs → wpList P ops Q rest (a.put o.dst (.slice (some ⟨g, 0, none⟩) (n + m) cap)) w') :
    wpList P ops Q (o :: rest) a w := by
  refine wpList_plain hgd fun K hK => ?_
  obtain ⟨g, cap, w', hr, h2, h3, h4, h5⟩ := run_zeros_own (P := P) w base t ti o.type e i z ht hti hi hz hsize hby hzc hz1 v n xs hown m hm hm2 hbase
  unfold Oper.wp execOp
  simp only [ho, resolve, invoke, builtin, Sem.run_bind, Sem.run_pure, Result.andThen_ok, List.map_toArray, List.map_cons, List.map_nil, hs, hx, hr]
  exact hK _ _ (h g cap w' h2 h3 h4 h5)

/-- clear of a slice without elements. -/
theorem run_clear_none (t ty e : TypeId) (ht : P.underlying t = some (.slice e)) (a : Option Addr) (c : Nat) :
    (Builtin.clear_ #[t] ty #[.slice a 0 c]).run P w = .ok (.tuple #[]) w := by
  cases a <;> simp [Builtin.clear_, run_underlying ht]

/-- clear of a part of a row. -/
theorem run_clear_row (t ty e : TypeId) (i : TypeInfo) (z : Value) (ht : P.underlying t = some (.slice e)) (hi : P.info? e = some i) (hz : i.zero = some z) (hzc : z.cells = #[z]) (hz1 : z.oneCell' = true)
    (g off n c : Nat) (cur : Array Value) (e' : TypeId) (hg : w.heap[g]? = some (.cells cur e' (0, 0))) (hn : 0 < n) (hfit : off + n ≤ cur.size) :
    (Builtin.clear_ #[t] ty #[.slice (some ⟨g, off, none⟩) n c]).run P w = .ok (.tuple #[]) (w.setRow g (cur.toList.take off ++ List.replicate n z ++ cur.toList.drop (off + n)).toArray) := by
  have hst := run_storeCells_at P g off e' (List.replicate n z) 0 cur w hg (by simpa using hfit) (fun v hv => by rw [List.eq_of_mem_replicate hv]; exact hz1)
  simp only [Nat.add_zero, List.length_replicate] at hst
  obtain ⟨k, rfl⟩ : ∃ k, n = k + 1 := ⟨n - 1, by omega⟩
  simp [Builtin.clear_, run_underlying ht, typeInfo, zeroValue, hi, hz, zeroCells_one z hzc, hst]

/-- clear AT THE OPERATION, FOR THE WALK: 'n' zeros laid over the row from 'off' on. -/
theorem wpList_clear_splice {ops : Array Oper} {rest : List Oper} {o : Oper} {a : Act} {Q : Exit → Act → World → Prop} (hgd : o.guard = none) (d : Operand) (t : TypeId)
    (ho : o.op = .call { callee := .builtin .clear, args := #[d], argTypes := #[t] })
    (e : TypeId) (i : TypeInfo) (z : Value) (ht : P.underlying t = some (.slice e)) (hi : P.info? e = some i) (hz : i.zero = some z) (hzc : z.cells = #[z]) (hz1 : z.oneCell' = true)
    (dp : Option Addr) (n c : Nat) (hd : a.eval d = .slice dp n c) (g off : Nat) (cur : List Value) (e' : TypeId) (hg : w.heap[g]? = some (.cells cur.toArray e' (0, 0)))
    (hpos : 0 < n → dp = some ⟨g, off, none⟩) (hfit : off + n ≤ cur.length) (B : Nat) (w0 : World) (hb : Below B w0 w) (hBg : B ≤ g)
    (h : ∀ w', Hid (w'.heap[g]? = some (.cells (splice cur off (List.replicate n z)).toArray e' (0, 0))) → w.grownBy w' (some g) → Below B w0 w' → wpList P ops Q rest (a.put o.dst (.tuple #[])) w') :
    wpList P ops Q (o :: rest) a w := by
  refine wpList_plain hgd fun K hK => ?_
  by_cases hn : n = 0
  · subst hn
    have hr := run_clear_none (P := P) w t o.type e ht dp c
    unfold Oper.wp execOp
    simp only [ho, resolve, invoke, builtin, Sem.run_bind, Sem.run_pure, Result.andThen_ok, List.map_toArray, List.map_cons, List.map_nil, hd, hr]
    exact hK _ _ (h w (show _ = _ by simpa [splice] using hg) ⟨rfl, rfl, rfl, Nat.le_refl _, fun _ _ _ => rfl⟩ hb)
  · obtain rfl := hpos (by omega)
    have hr := run_clear_row (P := P) w t o.type e i z ht hi hz hzc hz1 g off n c cur.toArray e' hg (by omega) (by simpa using hfit)
    unfold Oper.wp execOp
    simp only [ho, resolve, invoke, builtin, Sem.run_bind, Sem.run_pure, Result.andThen_ok, List.map_toArray, List.map_cons, List.map_nil, hd, hr]
    refine hK _ _ (h _ (show _ = _ from ?_) ⟨rfl, rfl, rfl, by simp, fun k _ hk => setRow_other w g k _ (fun e => hk (by rw [e]))⟩ (below_setRow hb hBg _))
    rw [setRow_heap w g _ _ e' _ hg]
    simp [splice]
end

/-- copy as one step of a region that draws its order: the row behind it, and that no other block has turned. -/
theorem step_copy_row {P : Program} {ops : Array Oper} {o : Oper} {a : Act} {w : World} {K : Act → World → Prop} {Q : Exit → Act → World → Prop} {E : Prop} (hgd : o.guard = none) (d s : Operand) (dT sT : TypeId)
    (ho : o.op = .call { callee := .builtin .copy, args := #[d, s], argTypes := #[dT, sT] }) (elem : TypeId) (hu : P.underlying dT = some (.slice elem)) (hsz : (P.info? elem).map (·.size) = some 1)
    (ad : Addr) (dLen dCap sLen sCap : Nat) (g off : Nat) (hd : a.eval d = .slice (some ⟨g, off, none⟩) dLen dCap) (hs : a.eval s = .slice (some ad) sLen sCap)
    (cur : List Value) (t : TypeId) (hg : w.heap[g]? = some (.cells cur.toArray t (0, 0))) (cs : List Value) (hn : cs.length = Nat.min sLen dLen)
    (hsrc : ∀ j v, cs[j]? = some v → w.cell? (ad.add j) = some v)
    (hfit : off + cs.length ≤ cur.length) (h1 : ∀ v ∈ cs, v.oneCell' = true)
    (h : ∀ w', Hid (w'.heap[g]? = some (.cells (splice cur off cs).toArray t (0, 0))) → Hid (w.grownBy w' (some g)) → K (a.put o.dst (goInt cs.length)) w') :
    if Region.wanted o (yielded ops a.tmps) = true then Oper.wp P o a w K Q else E := by
  have hw : Region.wanted o (yielded ops a.tmps) = true := by simp [Region.wanted, hgd]
  rw [if_pos hw]
  have hrun := run_copy_row (P := P) w dT sT o.type elem g off dLen dCap ad sLen sCap cur.toArray t cs hu hsz hg hn hsrc (by simpa using hfit) h1
  unfold Oper.wp
  simp [execOp, ho, resolve, invoke, builtin, hd, hs, hrun, Result.andThen]
  exact h _ (show _ = _ by simpa [splice] using setRow_heap w g _ _ t _ hg) ⟨rfl, rfl, rfl, by simp, fun k _ hk => setRow_other w g k _ (fun e => hk (by rw [e]))⟩

/-- copy at the operation, for the walk: the row behind it, and that no other block has turned. -/
theorem wpList_copy_row {P : Program} {w : World} {ops : Array Oper} {rest : List Oper} {o : Oper} {a : Act} {Q : Exit → Act → World → Prop} (hgd : o.guard = none) (d s : Operand) (dT sT : TypeId)
    (ho : o.op = .call { callee := .builtin .copy, args := #[d, s], argTypes := #[dT, sT] }) (elem : TypeId) (hu : P.underlying dT = some (.slice elem)) (hsz : (P.info? elem).map (·.size) = some 1)
    (dp sp : Option Addr) (dLen dCap sLen sCap : Nat) (hd : a.eval d = .slice dp dLen dCap) (hs : a.eval s = .slice sp sLen sCap)
    (g off : Nat) (cur : List Value) (t : TypeId) (hg : w.heap[g]? = some (.cells cur.toArray t (0, 0))) (cs : List Value) (hn : cs.length = Nat.min sLen dLen)
    (hpos : 0 < cs.length → dp = some ⟨g, off, none⟩ ∧ ∃ ad, sp = some ad ∧ ∀ j v, cs[j]? = some v → w.cell? (ad.add j) = some v)
    (hfit : off + cs.length ≤ cur.length) (h1 : ∀ v ∈ cs, v.oneCell' = true)
    (h : ∀ w', Hid (w'.heap[g]? = some (.cells (splice cur off cs).toArray t (0, 0))) → Hid (w.grownBy w' (some g)) → wpList P ops Q rest (a.put o.dst (goInt cs.length)) w') :
    wpList P ops Q (o :: rest) a w := by
  by_cases h0 : cs.length = 0
  · obtain rfl : cs = [] := List.eq_nil_of_length_eq_zero h0
    refine wpList_copy_nothing hgd d s dT sT ho elem hu hsz dp sp dLen dCap sLen sCap hd hs (by simpa using hn.symm) ?_
    exact h w (show _ = _ by simpa [splice] using hg) ⟨rfl, rfl, rfl, Nat.le_refl _, fun _ _ _ => rfl⟩
  · obtain ⟨rfl, ad, rfl, hsrc⟩ := hpos (by omega)
    refine wpList_copy_own hgd d s dT sT ho elem hu hsz g off dLen dCap ad sLen sCap hd hs cur.toArray t hg cs hn hsrc (by simpa using hfit) h1 ?_
    exact h _ (show _ = _ by simpa [splice] using setRow_heap w g _ _ t _ hg) ⟨rfl, rfl, rfl, by simp, fun k _ hk => setRow_other w g k _ (fun e => hk (by rw [e]))⟩
/-- the two laws with the operation written out: so that 'with_reducible refine' meets no other operation. -/
theorem copy_at {P : Program} {w : World} {ops : Array Oper} {rest : List Oper} {dst : Option Tmp} {ty : TypeId} {ps : String} {af : Array Edge} {a : Act} {Q : Exit → Act → World → Prop} {d s : Operand} {dT sT : TypeId}
    (elem : TypeId) (hu : P.underlying dT = some (.slice elem)) (hsz : (P.info? elem).map (·.size) = some 1)
    (dp sp : Option Addr) (dLen dCap sLen sCap : Nat) (hd : a.eval d = .slice dp dLen dCap) (hs : a.eval s = .slice sp sLen sCap)
    (g off : Nat) (cur : List Value) (t : TypeId) (hg : w.heap[g]? = some (.cells cur.toArray t (0, 0))) (cs : List Value) (hn : cs.length = Nat.min sLen dLen)
    (hpos : 0 < cs.length → dp = some ⟨g, off, none⟩ ∧ ∃ ad, sp = some ad ∧ ∀ j v, cs[j]? = some v → w.cell? (ad.add j) = some v)
    (hfit : off + cs.length ≤ cur.length) (h1 : ∀ v ∈ cs, v.oneCell' = true)
    (h : ∀ w', Hid (w'.heap[g]? = some (.cells (splice cur off cs).toArray t (0, 0))) → Hid (w.grownBy w' (some g)) → wpList P ops Q rest (a.put dst (goInt cs.length)) w') :
    wpList P ops Q ({ dst := dst, op := .call { callee := .builtin .copy, args := #[d, s], argTypes := #[dT, sT] }, type := ty, pos := ps, after := af, guard := none } :: rest) a w :=
  wpList_copy_row rfl d s dT sT rfl elem hu hsz dp sp dLen dCap sLen sCap hd hs g off cur t hg cs hn hpos hfit h1 h

theorem clear_at {P : Program} {w : World} {ops : Array Oper} {rest : List Oper} {dst : Option Tmp} {ty : TypeId} {ps : String} {af : Array Edge} {a : Act} {Q : Exit → Act → World → Prop} {d : Operand} {t : TypeId}
    (e : TypeId) (i : TypeInfo) (z : Value) (ht : P.underlying t = some (.slice e)) (hi : P.info? e = some i) (hz : i.zero = some z) (hzc : z.cells = #[z]) (hz1 : z.oneCell' = true)
    (dp : Option Addr) (n c : Nat) (hd : a.eval d = .slice dp n c) (g off : Nat) (cur : List Value) (e' : TypeId) (hg : w.heap[g]? = some (.cells cur.toArray e' (0, 0)))
    (hpos : 0 < n → dp = some ⟨g, off, none⟩) (hfit : off + n ≤ cur.length)
    (h : ∀ w', Hid (w'.heap[g]? = some (.cells (splice cur off (List.replicate n z)).toArray e' (0, 0))) → Hid (w.grownBy w' (some g)) → wpList P ops Q rest (a.put dst (.tuple #[])) w') :
    wpList P ops Q ({ dst := dst, op := .call { callee := .builtin .clear, args := #[d], argTypes := #[t] }, type := ty, pos := ps, after := af, guard := none } :: rest) a w :=
  wpList_clear_splice w rfl d t rfl e i z ht hi hz hzc hz1 dp n c hd g off cur e' hg hpos hfit 0 w (Below.refl _ _) (Nat.zero_le _) (fun w' h1 h2 _ => h w' h1 h2)
end Go.Proofs.Qxb6003812a.BuiltinLaws
