/-
  content.page (37) and content.setPage (43): their walks over plain facts, and the state 'Con' of a content.
-/
import Derived.Test.Qxb6003812aProg
import Derived.Test.Qxb6003812aBuiltinLaws
import Derived.WalkKit
import Derived.WalkSpells
import Derived.WalkLawsBesides
import Derived.Maps.OwnSet
namespace Go.Proofs.Qxb6003812a.ContentPage
open Go.RowKit
open Go.Maps (int_keyed Keyed)

set_option maxHeartbeats 400000 in
theorem page_zero (cb : Nat) (a : Option Addr) (n c : Nat) (w : World) (c1 : w.cell? ⟨cb, 1, none⟩ = some (.slice a n c)) :
    Calls Try.prog 37 #[.pointer (some ⟨cb, 0, none⟩), .int .i64 0] w fun e w' => e = .returned (.slice a n c) ∧ w' = w := by
  go_enter Try.func37, Try.ntmps37
  go_wp2
  go_ret
  exact ⟨rfl, rfl⟩

set_option maxHeartbeats 400000 in
theorem page_more (cb : Nat) (r : Option Nat) (i : Int) (hi : (i == 0) = false) (a : Option Addr) (n c : Nat) (w : World) (c2 : w.cell? ⟨cb, 2, none⟩ = some (.map r))
    (hrun : (Instr.lookup 59 (.map r) (.int .i64 i) false).run Try.prog w = .ok (.slice a n c) w) :
    Calls Try.prog 37 #[.pointer (some ⟨cb, 0, none⟩), .int .i64 i] w fun e w' => e = .returned (.slice a n c) ∧ w' = w := by
  go_enter Try.func37, Try.ntmps37
  go_wp2
  go_ret
  exact ⟨rfl, rfl⟩

set_option maxHeartbeats 400000 in
theorem set_zero (cb : Nat) (a : Option Addr) (n c : Nat) (v : Value) (w : World) (c1 : w.cell? ⟨cb, 1, none⟩ = some v) (f1 : w.frozen? ⟨cb, 1, none⟩ = false) :
    Calls Try.prog 43 #[.pointer (some ⟨cb, 0, none⟩), .int .i64 0, .slice a n c] w fun e w' => e = .returned (.tuple #[]) ∧ w' = w.setCell ⟨cb, 1, none⟩ (.slice a n c) := by
  go_enter Try.func43, Try.ntmps43
  go_wp2
  exact bodyPost_ret (results_none rfl _ _ _) rfl ⟨rfl, rfl⟩

set_option maxHeartbeats 400000 in
theorem set_old (cb mb : Nat) (i : Int) (hi : (i == 0) = false) (a : Option Addr) (n c : Nat) (w w1 : World) (c2 : w.cell? ⟨cb, 2, none⟩ = some (.map (some mb)))
    (hrun : (Instr.mapUpdate 59 (.map (some mb)) (.int .i64 i) (.slice a n c)).run Try.prog w = .ok () w1) :
    Calls Try.prog 43 #[.pointer (some ⟨cb, 0, none⟩), .int .i64 i, .slice a n c] w fun e w' => e = .returned (.tuple #[]) ∧ w' = w1 := by
  have q : ∀ (w : World) (r : Option Nat), (binOp .eql 59 (.map r) (.map none)).run Try.prog w = .ok (.bool r.isNone) w := fun w r => run_eql_map_nil w _ _ _ r Try.underlying59
  go_enter Try.func43, Try.ntmps43
  go_wp2
  go_end0
  exact ⟨rfl, rfl⟩

set_option maxHeartbeats 400000 in
theorem set_new (cb : Nat) (i : Int) (hi : (i == 0) = false) (a : Option Addr) (n c : Nat) (w w1 : World) (c2 : w.cell? ⟨cb, 2, none⟩ = some (.map none)) (f2 : w.frozen? ⟨cb, 2, none⟩ = false)
    (hrun : (Instr.mapUpdate 59 (.map (some w.heap.size)) (.int .i64 i) (.slice a n c)).run Try.prog ((w.setCell ⟨cb, 2, none⟩ (.map (some w.heap.size))).alloc (.map #[] 0)) = .ok () w1) (hcb : cb < w.heap.size) :
    Calls Try.prog 43 #[.pointer (some ⟨cb, 0, none⟩), .int .i64 i, .slice a n c] w fun e w' => e = .returned (.tuple #[]) ∧ w' = w1 := by
  have q : ∀ (w : World) (r : Option Nat), (binOp .eql 59 (.map r) (.map none)).run Try.prog w = .ok (.bool r.isNone) w := fun w r => run_eql_map_nil w _ _ _ r Try.underlying59
  have hmm := @run_makeMap Try.prog
  go_enter Try.func43, Try.ntmps43
  go_wp2
  go_end0
  exact ⟨rfl, rfl⟩

/-! ### the state of a content -/

/-- how a map's element reads here: as itself. -/
def tokR (v : Value) : Option (DataW Value × List MemPlace) := some (.held v, [])

/-- the pages: where each lies, its capacity, its bytes. -/
structure Pages where
  pa : Nat → Option Addr
  pc : Nat → Nat
  pg : Nat → List Int

def Pages.val (p : Pages) (i : Nat) : Value := .slice (p.pa i) (p.pg i).length (p.pc i)

def Pages.set (p : Pages) (i : Nat) (a : Option Addr) (c : Nat) (l : List Int) : Pages :=
  { pa := fun j => if j = i then a else p.pa j, pc := fun j => if j = i then c else p.pc j, pg := fun j => if j = i then l else p.pg j }

theorem Pages.set_val_same (p : Pages) (i : Nat) (a : Option Addr) (c : Nat) (l : List Int) : (p.set i a c l).val i = .slice a l.length c := by
  simp [Pages.val, Pages.set]

theorem Pages.set_val_other (p : Pages) (i j : Nat) (a : Option Addr) (c : Nat) (l : List Int) (h : j ≠ i) : (p.set i a c l).val j = p.val j := by
  simp [Pages.val, Pages.set, h]

theorem Pages.set_pg_same (p : Pages) (i : Nat) (a : Option Addr) (c : Nat) (l : List Int) : (p.set i a c l).pg i = l := by
  simp [Pages.set]

theorem Pages.set_pg_other (p : Pages) (i j : Nat) (a : Option Addr) (c : Nat) (l : List Int) (h : j ≠ i) : (p.set i a c l).pg j = p.pg j := by
  simp [Pages.set, h]

def ints (l : List Int) : List Value := l.map (Value.int .u8)

/-- what the field 'more' holds. -/
def MapIs (w : World) (cb : Nat) (r : Option Nat) (cnt : Nat) (pv : Nat → Value) : Prop :=
  (r = none ∧ ∀ i, 1 ≤ i → pv i = .slice none 0 0) ∨
  ∃ mb D, r = some mb ∧ cb < mb ∧ w.ownsMap Try.prog 2 tokR mb cnt D ∧ (∀ i : Nat, 1 ≤ i → D.atKey (.int .i64 i) (.held (.slice none 0 0)) = .held (pv i)) ∧ ∀ kl, Go.Maps.has D kl = true → ∃ i : Nat, 1 ≤ i ∧ i ≤ 1000000 ∧ kl = .int .i64 i

/-- block cb is a content of size 'sz' whose pages are 'p'; all that it leads to lies in blocks behind cb. -/
structure Con (w : World) (cb cnt : Nat) (sz : Int) (r : Option Nat) (p : Pages) : Prop where
  blk : w.heap[cb]? = some (.cells #[.int .i64 sz, p.val 0, .map r] 61 (0, 0))
  mp : MapIs w cb r cnt p.val
  row : ∀ i, w.ownsRow (cb + 1) 5 1 (p.val i) (p.pg i).length (ints (p.pg i))
  apart : ∀ i j, i ≠ j → (p.val i).ownBlock = none ∨ (p.val i).ownBlock ≠ (p.val j).ownBlock
  len : ∀ i, (p.pg i).length ≤ 65536

section
variable {w : World} {cb cnt : Nat} {sz : Int} {r : Option Nat} {p : Pages}

theorem Con.c0 (h : Con w cb cnt sz r p) : w.cell? ⟨cb, 0, none⟩ = some (.int .i64 sz) := by simp [World.cell?, h.blk]
theorem Con.c1 (h : Con w cb cnt sz r p) : w.cell? ⟨cb, 1, none⟩ = some (p.val 0) := by simp [World.cell?, h.blk]
theorem Con.c2 (h : Con w cb cnt sz r p) : w.cell? ⟨cb, 2, none⟩ = some (.map r) := by simp [World.cell?, h.blk]
theorem Con.free (h : Con w cb cnt sz r p) (o : Nat) : w.frozen? ⟨cb, o, none⟩ = false := by simp [World.frozen?, h.blk]
theorem Con.lt (h : Con w cb cnt sz r p) : cb < w.heap.size := (Array.getElem?_eq_some_iff.1 h.blk).1

theorem law : Keyed Try.prog 2 := int_keyed Try.underlying2
theorem zeroE (w : World) : (zeroValue 39).run Try.prog w = .ok (.slice none 0 0) w := by kernel_rfl

theorem key_is (i : Nat) (hi : i ≤ 1000000) : keyOf Try.prog 2 (.int .i64 i) = some (.int .i64 i) :=
  Go.Maps.keyOf_int_mk Try.underlying2 (WalkArith.wf_i64 (by omega))

/-- what c.more[i] gives. -/
theorem look (h : Con w cb cnt sz r p) (i : Nat) (h1 : 1 ≤ i) (hi : i ≤ 1000000) :
    (Instr.lookup 59 (.map r) (.int .i64 i) false).run Try.prog w = .ok (p.val i) w := by
  rcases h.mp with ⟨rfl, hn⟩ | ⟨mb, D, rfl, _, hown, hat⟩
  · rw [hn i h1]
    have := Go.Maps.look_nil (w := w) false law Try.underlying59 (zeroE w) (key_is i hi)
    simpa using this
  · obtain ⟨v, ps, hrun, hv⟩ := hown.lookup law Try.underlying59 (zeroE w) (zd := .held (.slice none 0 0)) (zp := []) rfl (key_is i hi)
    rw [hat.1 i h1] at hv
    unfold tokR at hv
    simp only [Option.some.injEq, Prod.mk.injEq, DataW.held.injEq] at hv
    rw [hrun, hv.1]

/-- content.page. -/
theorem page_call (h : Con w cb cnt sz r p) (i : Nat) (hi : i ≤ 1000000) :
    Calls Try.prog 37 #[.pointer (some ⟨cb, 0, none⟩), .int .i64 i] w fun e w' => e = .returned (.slice (p.pa i) (p.pg i).length (p.pc i)) ∧ w' = w := by
  by_cases h0 : i = 0
  · subst h0
    exact page_zero cb _ _ _ w h.c1
  · exact page_more cb r i (by rw [beq_eq_false_iff_ne]; omega) _ _ _ w h.c2 (look h i (by omega) hi)

/-- the rows and the map stay while block cb alone is written. -/
theorem heap_setCell_blk {cs : Array Value} {t : TypeId} (hb : w.heap[cb]? = some (.cells cs t (0, 0))) (o : Nat) (v : Value) : (w.setCell ⟨cb, o, none⟩ v).heap[cb]? = some (.cells (cs.setIfInBounds o v) t (0, 0)) := by
  rw [setCell_eq_setRow w cb o cs t (0, 0) v hb]
  exact setRow_heap w cb cs _ t _ hb

theorem row_setCell {base : Nat} {v : Value} {n : Nat} {xs : List Value} (h : w.ownsRow base 5 1 v n xs) {a : Addr} (ha : a.block < base) (u : Value) : (w.setCell a u).ownsRow base 5 1 v n xs :=
  ownsRow_setCell_below h ha u
end
end Go.Proofs.Qxb6003812a.ContentPage
