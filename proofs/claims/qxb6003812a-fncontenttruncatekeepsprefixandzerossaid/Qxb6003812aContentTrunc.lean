/-
  content.truncate (38): the walk.
-/
import Derived.Test.Qxb6003812aContentCut
namespace Go.Proofs.Qxb6003812a.ContentTrunc
open Go.RowKit Go.Proofs.Qxb6003812a.ContentPage Go.Proofs.Qxb6003812a.ContentSet Go.Proofs.Qxb6003812a.ContentPlain Go.Proofs.Qxb6003812a.ContentWrite Go.Proofs.Qxb6003812a.ContentRead Go.Proofs.Qxb6003812a.ContentAids Go.Proofs.Qxb6003812a.ContentCut

/-- only block cb, the map's block and new blocks have turned. -/
structure Turned (w w' : World) (cb : Nat) (r : Option Nat) : Prop where
  os : w'.os = w.os
  tape : w'.tape = w.tape
  output : w'.output = w.output
  size : w.heap.size ≤ w'.heap.size
  block : ∀ k, k < w.heap.size → k ≠ cb → some k ≠ r → w'.heap[k]? = w.heap[k]?

section
variable {w w1 w2 : World} {cb : Nat} {r : Option Nat}

theorem Turned.refl (w : World) (cb : Nat) (r : Option Nat) : Turned w w cb r := ⟨rfl, rfl, rfl, Nat.le_refl _, fun _ _ _ _ => rfl⟩

theorem Turned.grown {row : Option Nat} (h : Turned w w1 cb r) (hg : w1.grownBy w2 row) (hr : ∀ j, row = some j → w.heap.size ≤ j ∨ j = cb ∨ r = some j) : Turned w w2 cb r :=
  ⟨hg.os.trans h.os, hg.tape.trans h.tape, hg.output.trans h.output, Nat.le_trans h.size hg.size, fun k hk h1 h2 =>
    (hg.block k (Nat.lt_of_lt_of_le hk h.size) (fun e => (hr k e.symm).elim (fun h' => by omega) (fun h' => h'.elim h1 (fun h'' => h2 h''.symm)))).trans (h.block k hk h1 h2)⟩

theorem grown_setCell (w : World) (o : Nat) (v : Value) : w.grownBy (w.setCell ⟨cb, o, none⟩ v) (some cb) :=
  ⟨rfl, rfl, rfl, by simp [World.setCell], fun k _ hk => Below.heap_setCell _ _ _ _ (fun e => hk (by rw [e]))⟩

theorem Turned.setCell (h : Turned w w1 cb r) (o : Nat) (v : Value) : Turned w (w1.setCell ⟨cb, o, none⟩ v) cb r :=
  h.grown (grown_setCell w1 o v) (fun j hj => by simp at hj; exact .inr (.inl hj.symm))

theorem Turned.below (h : Turned w w1 cb r) (hcb : cb < w.heap.size) (hr : ∀ j, r = some j → cb < j) : Below cb w w1 :=
  ⟨h.os, h.tape, h.output, h.size, fun k hk => h.block k (by omega) (by omega) (fun e => by have := hr k e.symm; omega)⟩

theorem Turned.row (h : Turned w w1 cb r) {v : Value} {n : Nat} {xs : List Value} (hr : w.ownsRow (cb + 1) 5 1 v n xs) (hne : v.ownBlock = none ∨ v.ownBlock ≠ r) : w1.ownsRow (cb + 1) 5 1 v n xs := by
  refine ⟨hr.1, ?_⟩
  rcases hr.2 with hn | ⟨g, cap, cur, rfl, hb, hgg, rest⟩
  · exact .inl hn
  · refine .inr ⟨g, cap, cur, rfl, hb, ?_, rest⟩
    rw [h.block g (Array.getElem?_eq_some_iff.1 hgg).1 (by omega) (by simpa [Value.ownBlock] using hne)]
    exact hgg
end

/-- THE STEP of the range, at a content's map. -/
theorem next_con (w : World) {ops : Array Oper} {rest : List Oper} {o : Oper} {a : Act} {Q : Exit → Act → World → Prop}
    (hg : o.guard = none) (it : Operand) (hop : o.op = Op.next it false) (mb rb n : Nat) (D : DataW Value) (left : Lit → Bool) (c : Nat) (hit : a.eval it = .pointer (some ⟨rb, 0, none⟩)) (h : w.ranges Try.prog 2 tokR mb rb n D left c)
    (pa : Nat → Option Addr) (pl pc : Nat → Nat) (pv : Nat → Value) (hat : ∀ i : Nat, 1 ≤ i → D.atKey (.int .i64 i) (.held (.slice none 0 0)) = .held (if left (.int .i64 i) = true then .slice (pa i) (pl i) (pc i) else pv i))
    (hkeys : ∀ kl, Go.Maps.has D kl = true → ∃ i : Nat, 1 ≤ i ∧ i ≤ 1000000 ∧ kl = .int .i64 i)
    (hDone : c = 0 → (∀ kl, left kl = false) → wpList Try.prog ops Q rest (a.put o.dst (.tuple #[.bool false])) w)
    (hMore : ∀ (i : Nat) (w' : World) (c' : Nat), 1 ≤ i → i ≤ 1000000 → left (.int .i64 i) = true → Go.Maps.has D (.int .i64 i) = true → w'.ranges Try.prog 2 tokR mb rb n D (fun z => left z && !z.sameKey (.int .i64 i)) c' → c' < c →
      w.grownBy w' (some rb) → w'.heap.size = w.heap.size → (Instr.entry (.pointer (some ⟨rb, 0, none⟩))).run Try.prog w' = .ok (.tuple #[.int .i64 i, .slice (pa i) (pl i) (pc i)]) w' →
      wpList Try.prog ops Q rest (a.put o.dst (.tuple #[.bool true, .int .i64 i, .slice (pa i) (pl i) (pc i)])) w') :
    wpList Try.prog ops Q (o :: rest) a w := by
  refine wpList_next_ranges w hg it hop 2 law tokR (Value.int .i64) (fun v : Value => v) (fun key kl hkey => by obtain ⟨x, rfl, _⟩ := Go.Maps.keyOf_int_inv Try.underlying2 hkey; exact ⟨x, rfl⟩) (fun v y _ => ⟨v, rfl⟩) mb rb n D left c hit h hDone ?_
  intro x v kl y w' c' hkey hlk hv hat' hrg hlt hgr hsz hen
  have hhas := Go.Maps.has_true_of_atKey hat'
  obtain ⟨i, h1, h2, rfl⟩ := hkeys kl hhas
  obtain ⟨x', ex, ek, _⟩ := Go.Maps.keyOf_int_inv Try.underlying2 hkey
  simp only [Value.int.injEq, true_and] at ex
  subst ex
  simp only [Lit.int.injEq, true_and] at ek
  subst ek
  have h3 := hat i h1
  rw [hat', if_pos hlk] at h3
  unfold tokR at hv
  simp only [Option.some.injEq] at hv
  rw [← hv] at h3
  simp only [DataW.held.injEq] at h3
  subst h3
  exact hMore i w' c' h1 h2 hlk hhas hrg hlt hgr hsz hen

set_option maxHeartbeats 1000000 in
theorem trunc_up (w : World) (cb cnt n : Nat) (r : Option Nat) (p : Pages) (hcon : Con w cb cnt (n : Int) r p) (s : Nat) (hs : n ≤ s) :
    Calls Try.prog 38 #[.pointer (some ⟨cb, 0, none⟩), .int .i64 s] w fun e w' => e = .returned (.tuple #[]) ∧ Con w' cb cnt (s : Int) r p ∧ Below cb w w' := by
  have c0 := hcon.c0
  have f0 := hcon.free 0
  go_enter Try.func38, Try.ntmps38
  go_wp2
  go_end0
  exact ⟨rfl, con_size hcon _, (Below.refl cb w).setCell (p := ⟨cb, 0, none⟩) (Nat.le_refl cb) _⟩

/-- the content behind a truncation. -/
theorem con_cut {w w1 : World} {cb cnt : Nat} {sz sz' : Int} {r : Option Nat} {p : Pages} (h : Con w cb cnt sz r p) (s : Nat) (hb : w1.heap[cb]? = some (.cells #[.int .i64 sz', (cut p s).val 0, .map r] 61 (0, 0))) (ht : Turned w w1 cb r) (hm : MapIs w1 cb r cnt (cut p s).val) : Con w1 cb cnt sz' r (cut p s) := by
  refine ⟨hb, hm, fun i => ht.row (cut_row h s i) ?_, cut_apart h s, fun i => ?_⟩
  · rcases cut_block p s i with e | e
    · exact .inl e
    · rw [e]
      rcases h.mp with ⟨rfl, _⟩ | ⟨mb, D, rfl, _, hown, _⟩
      · cases (p.val i).ownBlock
        · exact .inl rfl
        · exact .inr (by simp)
      · exact row_not_map (h.row i) hown
  · rw [cut_len]
    have := h.len i
    omega

theorem cut_later_nil {w : World} {cb cnt : Nat} {sz : Int} {r : Option Nat} {p : Pages} (h : Con w cb cnt sz r p) (s i : Nat) (hn : p.val i = .slice none 0 0) : (cut p s).val i = .slice none 0 0 := by
  refine cut_nil h s i ?_
  unfold Pages.val at hn
  simp only [Value.slice.injEq] at hn
  simp [cut, hn.1]

set_option maxHeartbeats 2000000 in
theorem trunc_none (w : World) (cb cnt n : Nat) (p : Pages) (hcon : Con w cb cnt (n : Int) none p) (s : Nat) (hs : s < n) (hn : n ≤ 1000000) :
    Calls Try.prog 38 #[.pointer (some ⟨cb, 0, none⟩), .int .i64 s] w fun e w' => e = .returned (.tuple #[]) ∧ Con w' cb cnt (s : Int) none (cut p s) ∧ Below cb w w' := by
  have c0 := hcon.c0
  have f0 := hcon.free 0
  have c1 : w.cell? ⟨cb, 1, none⟩ = some (.slice (p.pa 0) (p.pg 0).length (p.pc 0)) := hcon.c1
  have f1 := hcon.free 1
  have c2 := hcon.c2
  have hlt := hcon.lt
  have hrn : ∀ w, (Instr.range 59 (.map none)).run Try.prog w = .ok (.pointer (some ⟨w.heap.size, 0, none⟩)) (w.alloc (.mapIter none 0 #[] 0)) := fun w => run_range_nilMap w 59 2 39 Try.underlying59
  go_enter Try.func38, Try.ntmps38
  go_wp2_with fail
  refine (below_cut hcon 0 s (by omega) (by omega) 0 rfl _).mono ?_
  rintro e wx ⟨rfl, hwx⟩
  have hwx' := hwx.symm
  subst hwx'
  clear hwx
  have hnx : ∀ ty, (Instr.next (.pointer (some ⟨w.heap.size, 0, none⟩)) false ty).run Try.prog ((w.setCell ⟨cb, 1, none⟩ (.slice ((cut p s).pa 0) ((cut p s).pg 0).length ((cut p s).pc 0))).alloc (.mapIter none 0 #[] 0)) = .ok (.tuple #[.bool false]) ((w.setCell ⟨cb, 1, none⟩ (.slice ((cut p s).pa 0) ((cut p s).pg 0).length ((cut p s).pc 0))).alloc (.mapIter none 0 #[] 0)) := fun ty => by
    have := run_next_nilMap (P := Try.prog) (w.setCell ⟨cb, 1, none⟩ (.slice ((cut p s).pa 0) ((cut p s).pg 0).length ((cut p s).pc 0))) ty 0 0 #[]
    rw [show (w.setCell ⟨cb, 1, none⟩ (.slice ((cut p s).pa 0) ((cut p s).pg 0).length ((cut p s).pc 0))).heap.size = w.heap.size from by simp [World.setCell]] at this
    exact this
  go_wp2_with fail
  refine wp_loop_rounds 1 ?_
  rw [rounds_succ]
  go_wp2
  go_end0
  have ht : Turned w ((w.setCell ⟨cb, 1, none⟩ (.slice ((cut p s).pa 0) ((cut p s).pg 0).length ((cut p s).pc 0))).setCell ⟨cb, 0, none⟩ (.int .i64 s)) cb none := ((Turned.refl w cb none).setCell 1 _).setCell 0 _
  have ht2 := ht.grown (World.grownBy_alloc _ (.mapIter none 0 #[] 0) none) (by simp)
  refine ⟨rfl, con_cut hcon s ?_ ht2 (.inl ⟨rfl, ?_⟩), ht2.below hlt (by simp)⟩
  · rw [Below.heap_alloc _ _ _ (by simpa [World.setCell] using hlt), heap_setCell_blk (heap_setCell_blk hcon.blk _ _)]
    rfl
  · intro i hi
    rcases hcon.mp with ⟨_, h⟩ | ⟨mb, D, e, _⟩
    · exact cut_later_nil hcon s i (h i hi)
    · cases e

/-- what is known of the map in the midst of the range. -/
def Mid (p : Pages) (s : Nat) (D : DataW Value) (left : Lit → Bool) : Prop :=
  (∀ i : Nat, 1 ≤ i → D.atKey (.int .i64 i) (.held (.slice none 0 0)) = .held (if left (.int .i64 i) = true then .slice (p.pa i) (p.pg i).length (p.pc i) else (cut p s).val i)) ∧
  ∀ kl, Go.Maps.has D kl = true → ∃ i : Nat, 1 ≤ i ∧ i ≤ 1000000 ∧ kl = .int .i64 i

theorem Mid.start {p : Pages} {s : Nat} {D : DataW Value} (h : (∀ i : Nat, 1 ≤ i → D.atKey (.int .i64 i) (.held (.slice none 0 0)) = .held (p.val i)) ∧ ∀ kl, Go.Maps.has D kl = true → ∃ i : Nat, 1 ≤ i ∧ i ≤ 1000000 ∧ kl = .int .i64 i)
    (hn : ∀ i, p.val i = .slice none 0 0 → (cut p s).val i = .slice none 0 0) : Mid p s D (Go.Maps.has D) := by
  refine ⟨fun i hi => ?_, h.2⟩
  cases hh : Go.Maps.has D (.int .i64 i)
  · rw [if_neg (by simp), Go.Maps.atKey_of_not_has hh]
    have h1 := h.1 i hi
    rw [Go.Maps.atKey_of_not_has hh] at h1
    simp only [DataW.held.injEq] at h1
    rw [hn i h1.symm]
  · rw [if_pos rfl]
    exact h.1 i hi

theorem same_int (i j : Nat) (hi : i ≤ 1000000) : (Lit.int .i64 (j : Int)).sameKey (.int .i64 (i : Int)) = decide (j = i) := by
  by_cases h : j = i
  · subst h
    rw [WideAt.sameKey_self (isKeyLit j hi)]
    simp
  · rw [Go.Maps.sameKey_ne (by intro e; simp only [Lit.int.injEq, true_and] at e; omega)]
    simp [h]

theorem Mid.del {p : Pages} {s : Nat} {D : DataW Value} {left : Lit → Bool} (h : Mid p s D left) (i : Nat) (hi : i ≤ 1000000) (hn : (cut p s).val i = .slice none 0 0) :
    Mid p s (D.del (.int .i64 i)) (fun z => left z && !z.sameKey (.int .i64 i)) := by
  refine ⟨fun j hj => ?_, fun kl hk => ?_⟩
  · simp only [same_int i j hi]
    by_cases e : j = i
    · subst e
      rw [Go.Maps.atKey_del_same, if_neg (by simp), hn]
    · rw [Go.Maps.atKey_del_other (by intro e'; simp only [Lit.int.injEq, true_and] at e'; omega), h.1 j hj]
      simp [e]
  · by_cases e : kl = .int .i64 i
    · subst e
      rw [Go.Maps.has_del_same] at hk
      cases hk
    · rw [Go.Maps.has_del_other e] at hk
      exact h.2 kl hk

theorem Mid.put {p : Pages} {s : Nat} {D : DataW Value} {left : Lit → Bool} (h : Mid p s D left) (hD : Go.Maps.IsMap D) (i : Nat) (h1 : 1 ≤ i) (hi : i ≤ 1000000) :
    Mid p s (D.put (.int .i64 i) (.held ((cut p s).val i))) (fun z => left z && !z.sameKey (.int .i64 i)) := by
  refine ⟨fun j hj => ?_, has_put h.2 i h1 hi _⟩
  simp only [same_int i j hi]
  by_cases e : j = i
  · subst e
    rw [Go.Maps.atKey_put_same hD (isKeyLit j hi), if_neg (by simp)]
  · rw [Go.Maps.atKey_put_other (by intro e'; simp only [Lit.int.injEq, true_and] at e'; omega), h.1 j hj]
    simp [e]

theorem Mid.done {p : Pages} {s : Nat} {D : DataW Value} {left : Lit → Bool} (h : Mid p s D left) (hl : ∀ kl, left kl = false) :
    (∀ i : Nat, 1 ≤ i → D.atKey (.int .i64 i) (.held (.slice none 0 0)) = .held ((cut p s).val i)) ∧ ∀ kl, Go.Maps.has D kl = true → ∃ i : Nat, 1 ≤ i ∧ i ≤ 1000000 ∧ kl = .int .i64 i := by
  refine ⟨fun i hi => ?_, h.2⟩
  rw [h.1 i hi, hl]
  simp

theorem turned_map {w w1 : World} {mb : Nat} (h : w.mapTurned w1 mb) (cb : Nat) (hcb : cb ≠ mb) : w1.heap[cb]? = w.heap[cb]? := by
  obtain ⟨es, clock, es', clock', hb, rfl⟩ := h
  exact Go.ChangeMaps.heap_setBlock_other hb _ hcb

set_option maxHeartbeats 4000000 in
set_option maxRecDepth 100000 in
theorem trunc_some (w : World) (cb cnt n mb : Nat) (p : Pages) (hcon : Con w cb cnt (n : Int) (some mb) p) (s : Nat) (hs : s < n) (hn : n ≤ 1000000) (hcnt : cnt ≤ 1000000) :
    Calls Try.prog 38 #[.pointer (some ⟨cb, 0, none⟩), .int .i64 s] w fun e w' => e = .returned (.tuple #[]) ∧ Con w' cb cnt (s : Int) (some mb) (cut p s) ∧ Below cb w w' := by
  have c0 := hcon.c0
  have f0 := hcon.free 0
  have c1 : w.cell? ⟨cb, 1, none⟩ = some (.slice (p.pa 0) (p.pg 0).length (p.pc 0)) := hcon.c1
  have f1 := hcon.free 1
  have c2 := hcon.c2
  have hlt := hcon.lt
  obtain ⟨D, hcm, hown, hat⟩ : ∃ D, cb < mb ∧ w.ownsMap Try.prog 2 tokR mb cnt D ∧ ((∀ i : Nat, 1 ≤ i → D.atKey (.int .i64 i) (.held (.slice none 0 0)) = .held (p.val i)) ∧ ∀ kl, Go.Maps.has D kl = true → ∃ i : Nat, 1 ≤ i ∧ i ≤ 1000000 ∧ kl = .int .i64 i) := by
    rcases hcon.mp with ⟨e, _⟩ | ⟨mb', D, e, h1, h2, h3⟩
    · cases e
    · cases e
      exact ⟨D, h1, h2, h3⟩
  have q : ∀ (w : World) (a : Option Addr) (n c n' c' : Nat), (binOp .eql 39 (.slice a n c) (.slice none n' c')).run Try.prog w = .ok (.bool a.isNone) w := fun w a n c n' c' => Lib.run_eql_slice_nil w _ _ a n c n' c' Try.underlying39
  go_enter Try.func38, Try.ntmps38
  go_wp2_with fail
  refine (below_cut hcon 0 s (by omega) (by omega) 0 rfl _).mono ?_
  rintro e wx ⟨rfl, hwx⟩
  have hwx' := hwx.symm
  subst hwx'
  clear hwx
  have hown1 := hown.setCell (a := ⟨cb, 1, none⟩) (by simp; omega) (.slice ((cut p s).pa 0) ((cut p s).pg 0).length ((cut p s).pc 0))
  have HAT : Hid _ := hat
  clear hat
  go_wp2_with (at_range; refine wpList_range_own _ rfl _ 59 rfl 2 39 law Try.underlying59 _ mb cnt D rfl hown1 ?_; intro w0 hrg0 hg0 hs0)
  go_frame
  have e1 : (w.setCell ⟨cb, 1, none⟩ (.slice ((cut p s).pa 0) ((cut p s).pg 0).length ((cut p s).pc 0))).heap.size = w.heap.size := by simp [World.setCell]
  rw [e1] at hrg0
  rw [e1]
  have hblk : Hid (w0.heap[cb]? = some (.cells #[.int .i64 n, (cut p s).val 0, .map (some mb)] 61 (0, 0))) := show _ = _ by
    rw [hg0.block cb (by rw [e1]; exact hlt) (by simp), heap_setCell_blk hcon.blk]; rfl
  have htu : Turned w w0 cb (some mb) := ((Turned.refl w cb (some mb)).setCell 1 _).grown hg0 (by simp)
  have hmid : Mid p s D (Go.Maps.has D) := Mid.start HAT.out (fun i hi => cut_later_nil hcon s i hi)
  have HMID : Hid (Mid p s D (Go.Maps.has D)) := hmid
  clear e1 hg0 hs0 hown1 hmid c0 f0 c1 f1 c2
  obtain ⟨rb, hrb⟩ : ∃ rb, rb = w.heap.size := ⟨_, rfl⟩
  rw [← hrb] at hrg0
  rw [← hrb]
  have HRB : Hid (rb = w.heap.size) := hrb
  clear hrb
  go_loopw [4] (fun _ wr => ∃ (D' : DataW Value) (left : Lit → Bool) (c' : Nat), wr.ranges Try.prog 2 tokR mb rb cnt D' left c' ∧ Hid (Mid p s D' left) ∧ Hid (wr.heap[cb]? = some (.cells #[.int .i64 n, (cut p s).val 0, .map (some mb)] 61 (0, 0))) ∧ Turned w wr cb (some mb)) (fun _ wr => wr.rangeLeft mb rb)
  case atStart => exact ⟨D, _, _, hrg0, HMID, hblk, htu⟩
  case round =>
    clear hrg0 HMID hblk htu
    obtain ⟨D', left, c', hrg, hmid, hblk, htu⟩ := hrel
    go_wp2_with (at_next; refine next_con _ rfl _ rfl mb rb cnt D' left c' rfl hrg p.pa (fun i => (p.pg i).length) p.pc (cut p s).val hmid.out.1 hmid.out.2 ?_ ?_)
    · intro _ hl0
      have c0 : wr.cell? ⟨cb, 0, none⟩ = some (.int .i64 n) := by simp [World.cell?, hblk.out]
      have f0 : wr.frozen? ⟨cb, 0, none⟩ = false := by simp [World.frozen?, hblk.out]
      have HL : Hid (∀ kl, left kl = false) := hl0
      clear hl0
      go_wp2
      go_end0
      refine ⟨rfl, con_cut hcon s ?_ (htu.setCell 0 _) (.inr ⟨mb, D', rfl, hcm, hrg.owns.setCell (by simp; omega) _, hmid.out.done HL.out⟩), (htu.setCell 0 _).below hlt (fun j hj => by simp at hj; omega)⟩
      rw [heap_setCell_blk hblk.out]
      rfl
    · intro i w1 c1' hi1 hi2 hlk hhas hrg1 hlt1 hgr1 hs1 hen
      have hwr := htu.size
      have hb1 : Hid (w1.heap[cb]? = some (.cells #[.int .i64 n, (cut p s).val 0, .map (some mb)] 61 (0, 0))) := show _ = _ by
        rw [hgr1.block cb (by omega) (by have := HRB.out; simp; omega)]; exact hblk.out
      have htu1 : Turned w w1 cb (some mb) := htu.grown hgr1 (fun j hj => by have := HRB.out; simp at hj; omega)
      have c2 : w1.cell? ⟨cb, 2, none⟩ = some (.map (some mb)) := by simp [World.cell?, hb1.out]
      have HLE : Hid (c1' < c') := hlt1
      have HHAS : Hid (Go.Maps.has D' (.int .i64 i) = true) := hhas
      have HRG : Hid (wr.ranges Try.prog 2 tokR mb rb cnt D' left c') := hrg
      have HRG1 : Hid (w1.ranges Try.prog 2 tokR mb rb cnt D' (fun z => left z && !z.sameKey (.int .i64 i)) c1') := hrg1
      clear hrg hrg1 hlt1 hhas hlk hgr1 hs1 hblk htu hwr
      go_wp2_with fail
      refine (below_cut hcon i s hi2 (by omega) _ (by omega) _).mono ?_
      rintro e wx ⟨rfl, hwx⟩
      have hwx' := hwx.symm
      subst hwx'
      clear hwx
      have hcv : (cut p s).val i = .slice ((cut p s).pa i) ((cut p s).pg i).length ((cut p s).pc i) := rfl
      have HCV : Hid ((cut p s).val i = .slice ((cut p s).pa i) ((cut p s).pg i).length ((cut p s).pc i)) := hcv
      have HNIL : Hid ((cut p s).pa i = none → (cut p s).val i = .slice none 0 0) := cut_nil hcon s i
      clear hcv
      generalize (cut p s).pa i = ca at *
      generalize ((cut p s).pg i).length = cl at *
      generalize (cut p s).pc i = cc at *
      cases ca with
      | none =>
        go_wp2_with (at_delete; refine wpList_delete_ranges _ rfl _ _ 59 2 rfl 39 law Try.underlying59 _ mb rb cnt D' _ c1' rfl HRG1.out _ _ rfl (key_is i hi2) ?_; intro w2 c2' hrg2 hle2 htm2; go_frame)
        rw [Go.Maps.strike_twice] at hrg2
        have hb2 : Hid (w2.heap[cb]? = some (.cells #[.int .i64 n, (cut p s).val 0, .map (some mb)] 61 (0, 0))) := show _ = _ by rw [turned_map htm2 cb (by omega)]; exact hb1.out
        have htu2 : Turned w w2 cb (some mb) := htu1.grown htm2.grown (fun j hj => .inr (.inr hj))
        go_roundw
        case rel => exact ⟨D'.del (.int .i64 i), _, c2', hrg2, hmid.out.del i hi2 (HNIL.out trivial), hb2, htu2⟩
        case measure => rw [hrg2.left_eq, HRG.out.left_eq]; have := HLE.out; omega
      | some x =>
        go_wp2_with (at_mapUpdate; refine MapStore.wpList_store_ranges _ rfl _ _ _ 59 rfl 2 39 law Try.underlying59 tokR mb rb cnt D' _ c1' rfl HRG1.out (by unfold maxLen; omega) _ _ _ rfl rfl (key_is i hi2) _ _ rfl HHAS.out ?_; intro w2 hrg2 htm2; go_frame)
        have hb2 : Hid (w2.heap[cb]? = some (.cells #[.int .i64 n, (cut p s).val 0, .map (some mb)] 61 (0, 0))) := show _ = _ by rw [turned_map htm2 cb (by omega)]; exact hb1.out
        have htu2 : Turned w w2 cb (some mb) := htu1.grown htm2.grown (fun j hj => .inr (.inr hj))
        have hm2 := hmid.out.put HRG.out.owns.isMap i hi1 hi2
        rw [HCV.out] at hm2
        go_roundw
        case rel => exact ⟨_, _, c1', hrg2, hm2, hb2, htu2⟩
        case measure => rw [hrg2.left_eq, HRG.out.left_eq]; exact HLE.out

/-- a truncation from n to s. -/
def cutTo (p : Pages) (n s : Nat) : Pages := if s < n then cut p s else p

/-- content.truncate. -/
theorem trunc_any (w : World) (cb cnt n : Nat) (r : Option Nat) (p : Pages) (hcon : Con w cb cnt (n : Int) r p) (s : Nat) (hn : n ≤ 1000000) (hcnt : cnt ≤ 1000000) :
    Calls Try.prog 38 #[.pointer (some ⟨cb, 0, none⟩), .int .i64 s] w fun e w' => e = .returned (.tuple #[]) ∧ Con w' cb cnt (s : Int) r (cutTo p n s) ∧ Below cb w w' := by
  unfold cutTo
  by_cases h : s < n
  · rw [if_pos h]
    cases r with
    | none => exact trunc_none w cb cnt n p hcon s h hn
    | some mb => exact trunc_some w cb cnt n mb p hcon s h hn hcnt
  · rw [if_neg h]
    exact trunc_up w cb cnt n r p hcon s (by omega)

theorem zzTrunc (w : World) (cb cnt n : Nat) (r : Option Nat) (p : Pages) (hcon : Con w cb cnt (n : Int) r p) (s : Nat) (hn : n ≤ 1000000) (hcnt : cnt ≤ 1000000) :
    Calls Try.prog 27 #[.pointer (some ⟨cb, 0, none⟩), .int .i64 s] w fun e w' => e = .returned (.tuple #[]) ∧ Con w' cb cnt (s : Int) r (cutTo p n s) ∧ Below cb w w' := by
  go_enter Try.func27, Try.ntmps27
  go_wp2_with fail
  refine (trunc_any w cb cnt n r p hcon s hn hcnt).mono ?_
  rintro e w1 ⟨rfl, hc, hb⟩
  go_wp2
  go_end0
  exact ⟨rfl, hc, hb⟩
end Go.Proofs.Qxb6003812a.ContentTrunc
