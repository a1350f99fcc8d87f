/-
  jvb1Clone (7); bytes in a block of the call's own.
-/
import Derived.Test.Qxb6605418aProg
import Derived.WalkKit
import Derived.WalkSpells
import Derived.WalkLawsBesides
import Derived.Lib.Strings
import Derived.Below
import Derived.Lib.SliceRun
import Derived.Deep.Draws
namespace Go.Proofs.Qxb6605418a.Aids
open Go.RowKit
set_option linter.unusedVariables false

theorem info5 : (Try.prog.info? 5).map (fun i => (i.zero, i.size, i.bytes)) = some (some (.int .u8 0), 1, 1) := by kernel_rfl

def ints (l : List Int) : List Value := l.map (Value.int .u8)

theorem made_zeros (n : Nat) : (madeCells (Value.int .u8 0).cells (n * 1)).toList = ints (List.replicate n 0) := by
  unfold madeCells
  rw [Nat.mul_one]
  apply List.ext_getElem
  · simp [ints]
  · intro i h1 h2
    simp [ints, Value.cells, Nat.mod_one]

theorem own_block {w : World} {base n : Nat} {g : Nat} {l : List Int} (h : w.ownsRow base 5 1 (.slice (some ⟨g, 0, none⟩) n n) n (ints l)) : w.heap[g]? = some (.cells (ints l).toArray 5 (0, 0)) := by
  rcases h.2 with ⟨e, _⟩ | ⟨g', cap, cur, e, _, hg, _, _, hs, ht⟩
  · simp at e
  · simp only [Value.slice.injEq, Option.some.injEq, Addr.mk.injEq, and_true, true_and] at e
    obtain ⟨rfl, rfl⟩ := e
    rw [hg, ← ht, List.take_of_length_le (by simp [hs])]

/-- the bytes l in a block that may be written. -/
structure Cells (w : World) (B : Nat) (l : List Int) : Prop where
  cell : ∀ j, j < l.length → w.cell? ⟨B, j, none⟩ = some (.int .u8 (l.getD j 0))
  free : ∀ j, w.frozen? ⟨B, j, none⟩ = false

theorem Cells.of_block {w : World} {B : Nat} {l : List Int} (h : w.heap[B]? = some (.cells (ints l).toArray 5 (0, 0))) : Cells w B l := by
  refine ⟨fun j hj => ?_, fun j => by simp [World.frozen?, h]⟩
  simp [World.cell?, h, ints, List.getD_eq_getElem?_getD, List.getElem?_eq_getElem hj]

theorem Cells.made {w : World} {base n g : Nat} (h : w.ownsRow base 5 1 (.slice (some ⟨g, 0, none⟩) n n) n (madeCells (Value.int .u8 0).cells (n * 1)).toList) : Cells w g (List.replicate n 0) := by
  rw [made_zeros] at h
  exact .of_block (own_block h)

theorem Cells.store {w : World} {B : Nat} {l : List Int} (h : Cells w B l) (k : Nat) (v : Int) (hk : k < l.length) : Cells (w.setCell ⟨B, k, none⟩ (.int .u8 v)) B (l.set k v) := by
  refine ⟨fun j hj => ?_, fun j => by rw [World.frozen?_setCell]; exact h.free j⟩
  rw [List.length_set] at hj
  by_cases e : j = k
  · subst e
    rw [World.cell?_setCell_same _ _ _ (h.cell j hj), List.getD_eq_getElem?_getD, List.getElem?_set_self hj, Option.getD_some]
  · rw [World.cell?_setCell_other _ _ _ _ (by intro e2; exact e (congrArg Addr.off e2).symm), h.cell j hj, List.getD_eq_getElem?_getD, List.getD_eq_getElem?_getD, List.getElem?_set_ne (fun e2 => e e2.symm)]

theorem Cells.kept {w w' : World} {B C : Nat} {l : List Int} (h : Cells w B l) (hb : Below C w w') (hB : B < C) : Cells w' B l :=
  ⟨fun j hj => by rw [hb.cell (by exact hB)]; exact h.cell j hj, fun j => by rw [hb.frozen (by exact hB)]; exact h.free j⟩

theorem Cells.drew {w : World} {B m : Nat} {l : List Int} (h : Cells w B l) : Cells (w.drewN m) B l := ⟨h.cell, h.free⟩

theorem drew_below {B m : Nat} {a w : World} (h : Below B a w) : Below B a (w.drewN m) := ⟨h.os, h.tape, h.output, h.size, h.block⟩

/-- a slice of bytes that came in. -/
def IsRow (k : IntKind) (w : World) (a : Option Addr) (len cap : Nat) (zs : List Int) : Prop :=
  (a = none ∧ len = 0 ∧ cap = 0 ∧ zs = []) ∨
  ∃ x, a = some x ∧ len ≤ cap ∧ cap ≤ maxLen ∧ zs.length = cap ∧ (∀ i, i < zs.length → w.cell? (x.add i) = some (.int k (zs.getD i 0))) ∧ ∀ n ∈ zs, (Lit.int k n).wf = true

theorem set_step {zs : List Int} {k len : Nat} (hk : k < len) (hz : len ≤ zs.length) : (zs.take k ++ List.replicate (len - k) 0).set k (zs.getD k 0) = zs.take (k + 1) ++ List.replicate (len - (k + 1)) 0 := by
  apply List.ext_getElem?
  intro i
  have hg : zs.getD k 0 = zs[k]'(by omega) := by rw [List.getD_eq_getElem?_getD, List.getElem?_eq_getElem (by omega)]; rfl
  rw [hg]
  by_cases e : k = i
  · subst e
    rw [List.getElem?_set_self (by simp; omega), List.getElem?_append_left (by simp; omega), List.getElem?_take, if_pos (by omega), List.getElem?_eq_getElem (by omega)]
  · rw [List.getElem?_set_ne e]
    by_cases hi : i < k
    · rw [List.getElem?_append_left (by simp; omega), List.getElem?_append_left (by simp; omega), List.getElem?_take, List.getElem?_take, if_pos hi, if_pos (by omega)]
    · rw [List.getElem?_append_right (by simp; omega), List.getElem?_append_right (by simp; omega)]
      simp only [List.length_take, List.getElem?_replicate]
      by_cases hq : i < len
      · rw [if_pos (by omega), if_pos (by omega)]
      · rw [if_neg (by omega), if_neg (by omega)]

set_option maxHeartbeats 2000000 in
theorem clone_some (x : Addr) (len cap : Nat) (zs : List Int) (w : World) (hl : len ≤ cap) (hz : zs.length = cap) (hlen : len ≤ 1048576) (hcell : ∀ i, i < zs.length → w.cell? (x.add i) = some (.int .u8 (zs.getD i 0))) :
    Calls Try.prog 7 #[.slice (some x) len cap] w fun e w' => e = .returned (.slice (some ⟨w.heap.size, 0, none⟩) len len) ∧ Hid (Cells w' w.heap.size (zs.take len)) ∧ w.heap.size < w'.heap.size ∧ Below w.heap.size w w' := by
  have q : ∀ (w : World) (a : Option Addr) (n c n' c' : Nat), (binOp .eql 22 (.slice a n c) (.slice none n' c')).run Try.prog w = .ok (.bool a.isNone) w := fun w a n c n' c' => Lib.run_eql_slice_nil w _ _ a n c n' c' Try.underlying22
  obtain ⟨i0, ei, ez, e1, e2⟩ := info_parts info5
  have HC : Hid (∀ i, i < zs.length → w.cell? (x.add i) = some (.int .u8 (zs.getD i 0))) := hcell
  have HZ : Hid (zs.length = cap) := hz
  clear hcell hz
  go_enter Try.func7, Try.ntmps7
  go_wp2_with (first | (at_make; refine wpList_make_full _ rfl _ _ 22 rfl w.heap.size 5 i0 (.int .u8 0) 1 Try.underlying22 ei ez e1 .i64 .i64 _ _ len rfl rfl rfl rfl (by rw [e2]; omega) (by unfold maxLen; omega) (Nat.le_refl _) ?_; intro w1 hown1 hgr1))
  have hc1 := Cells.made hown1
  have hb1 : Below w.heap.size w w1 := (Below.refl _ w).grown hgr1 (Nat.le_refl _) (by simp)
  have hs1 : w.heap.size < w1.heap.size := by
    rw [made_zeros] at hown1
    exact (Array.getElem?_eq_some_iff.1 (own_block hown1)).1
  clear hown1 hgr1
  go_loopw [4] (fun d wr => ∃ k : Nat, k ≤ len ∧ d = .int .i64 k ∧ Hid (Cells wr w.heap.size (zs.take k ++ List.replicate (len - k) 0)) ∧ w.heap.size < wr.heap.size ∧ Below w.heap.size w wr) (fun d _ => len - (intOf d).toNat)
  case atStart => exact ⟨0, Nat.zero_le _, rfl, show Cells _ _ _ by simpa using hc1, hs1, hb1⟩
  case round =>
    obtain ⟨k, hk, rfl, hc, hs, hb⟩ := hrel
    rename_i wr hKK
    by_cases hlt : k < len
    · have hzl := HZ.out
      have hsrc : wr.cell? (x.add k) = some (.int .u8 (zs.getD k 0)) := by
        have hck := HC.out k (by omega)
        rw [hb.cell (World.block_lt_of_cell? w _ hck)]
        exact hck
      have hll : k < (zs.take k ++ List.replicate (len - k) (0 : Int)).length := by simp; omega
      have hdst := hc.out.cell k hll
      have hfr := hc.out.free k
      have hnew := hc.out.store k (zs.getD k 0) hll
      rw [set_step hlt (by omega)] at hnew
      have HN : Hid (Cells (wr.setCell ⟨w.heap.size, k, none⟩ (.int .u8 (zs.getD k 0))) w.heap.size (zs.take (k + 1) ++ List.replicate (len - (k + 1)) 0)) := hnew
      clear hnew hc hll hzl
      generalize (zs.take k ++ List.replicate (len - k) (0 : Int)).getD k 0 = old at *
      generalize zs.getD k 0 = v at *
      have hlt2 : (k : Int) < (len : Int) := by omega
      go_wp2_with fail
      go_roundw
      case rel => exact ⟨k + 1, by omega, by go_num, HN, by rw [World.size_setCell]; exact hs, hb.setCell (Nat.le_refl _) _⟩
      case measure => simp [intOf]; omega
    · obtain rfl : k = len := by omega
      have hc' : Hid (Cells wr w.heap.size (zs.take k)) := by
        have := hc.out
        rw [Nat.sub_self, List.replicate_zero, List.append_nil] at this
        exact this
      clear hc
      go_wp2
      go_ret
      exact ⟨rfl, hc', hs, hb⟩

set_option maxHeartbeats 1000000 in
theorem clone_none (w : World) : Calls Try.prog 7 #[.slice none 0 0] w fun e w' => e = .returned (.slice none 0 0) ∧ w' = w := by
  have q : ∀ (w : World) (a : Option Addr) (n c n' c' : Nat), (binOp .eql 22 (.slice a n c) (.slice none n' c')).run Try.prog w = .ok (.bool a.isNone) w := fun w a n c n' c' => Lib.run_eql_slice_nil w _ _ a n c n' c' Try.underlying22
  go_enter Try.func7, Try.ntmps7
  go_wp2
  go_ret
  exact ⟨rfl, rfl⟩

/-- a slice of the bytes l that lie from a block's start on, the block from 'lo' up to 'hi' (or nothing). -/
def Sl (w : World) (lo hi : Nat) (a : Option Addr) (l : List Int) : Prop := 0 < l.length → ∃ b, a = some ⟨b, 0, none⟩ ∧ lo ≤ b ∧ b < hi ∧ Cells w b l

theorem Sl.kept {w w' : World} {lo hi B : Nat} {a : Option Addr} {l : List Int} (h : Sl w lo hi a l) (hb : Below B w w') (hB : hi ≤ B) : Sl w' lo hi a l := by
  intro hl
  obtain ⟨b, e, h1, h2, h3⟩ := h hl
  exact ⟨b, e, h1, h2, h3.kept hb (by omega)⟩

/-- the bytes that came in are bytes. -/
def Bytes (l : List Int) : Prop := ∀ j, 0 ≤ l.getD j 0 ∧ l.getD j 0 ≤ 255

theorem IsRow.bytes {w : World} {a : Option Addr} {len cap : Nat} {zs : List Int} (h : IsRow .u8 w a len cap zs) : Bytes (zs.take len) := by
  intro j
  rw [List.getD_eq_getElem?_getD]
  rcases hx : (zs.take len)[j]? with _ | v
  · simp
  · rcases h with ⟨_, _, _, rfl⟩ | ⟨x, _, _, _, _, _, hw⟩
    · simp at hx
    · have hm : v ∈ zs := List.mem_of_mem_take (List.mem_of_getElem? hx)
      have := hw v hm
      simp only [Lit.wf, Bool.and_eq_true, decide_eq_true_eq, show IntKind.u8.min = 0 from rfl, show IntKind.u8.max = 255 from rfl] at this
      simpa using this

theorem IsRow.len {k : IntKind} {w : World} {a : Option Addr} {len cap : Nat} {zs : List Int} (h : IsRow k w a len cap zs) : len ≤ 9223372036854775807 := by
  rcases h with ⟨_, rfl, _, _⟩ | ⟨x, _, h1, h2, _⟩
  · omega
  · unfold maxLen at h2; omega

/-- jvb1Clone. -/
theorem clone_any (a : Option Addr) (len cap : Nat) (zs : List Int) (w : World) (h : IsRow .u8 w a len cap zs) (hlen : len ≤ 1048576) :
    Calls Try.prog 7 #[.slice a len cap] w fun e w' => ∃ ao, e = .returned (.slice ao len len) ∧ Sl w' w.heap.size w'.heap.size ao (zs.take len) ∧ Hid ((zs.take len).length = len) ∧ Below w.heap.size w w' := by
  rcases h with ⟨rfl, rfl, rfl, rfl⟩ | ⟨x, rfl, hl, _, hz, hcell, _⟩
  · refine (clone_none w).mono ?_
    rintro e w1 ⟨rfl, rfl⟩
    exact ⟨none, rfl, fun h => by simp at h, show _ = _ by simp, Below.refl _ _⟩
  · refine (clone_some x len cap zs w hl hz hlen hcell).mono ?_
    rintro e w1 ⟨rfl, hg, hs, hb⟩
    exact ⟨_, rfl, fun _ => ⟨_, rfl, Nat.le_refl _, hs, hg.out⟩, show _ = _ by simp; omega, hb⟩

/-- a bool that tells whether p. -/
def Says (e : Ending) (p : Prop) : Prop := ∃ r : Bool, e = .returned (.bool r) ∧ (r = true ↔ p)
theorem says_no {p : Prop} (h : ¬ p) : Says (.returned (.bool false)) p := ⟨false, rfl, ⟨fun e => absurd e (by decide), fun e => absurd e h⟩⟩
theorem says_yes {p : Prop} (h : p) : Says (.returned (.bool true)) p := ⟨true, rfl, ⟨fun _ => h, fun _ => rfl⟩⟩
end Go.Proofs.Qxb6605418a.Aids
