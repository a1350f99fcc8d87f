/-
  The laws' own helpers: kindFoldEq (10), cloneBytes (8), zzBytes (7), kindKnown (9) under names; bytes in a block of the call's own.
-/
import Derived.Test.Qxb6605477aKindWalks
import Derived.Below
import Derived.Lib.SliceRun
namespace Go.Proofs.Qxb6605477a.KindAids
open Go.RowKit Go.Proofs.Qxb6605477a.KindPlain Go.Proofs.Qxb6605477a.KindWalks
set_option linter.unusedVariables false

theorem info5 : (Try.prog.info? 5).map (fun i => (i.zero, i.size, i.bytes)) = some (some (.int .u8 0), 1, 1) := by kernel_rfl

def ints (l : List Int) : List Value := l.map (Value.int .u8)

theorem made_zeros (n : Nat) : (madeCells (Value.int .u8 0).cells (n * 1)).toList = ints (List.replicate n 0) := by
  unfold madeCells
  rw [Nat.mul_one]
  apply List.ext_getElem
  · simp [ints]
  · intro i h1 h2
    simp [ints, Value.cells, Nat.mod_one]

theorem own_block {w : World} {base n : Nat} {g : Nat} {l : List Int} (h : w.ownsRow base 5 1 (.slice (some ⟨g, 0, none⟩) n n) n (ints l)) : w.heap[g]? = some (.cells (ints l).toArray 5 (0, 0)) := by
  rcases h.2 with ⟨e, _⟩ | ⟨g', cap, cur, e, _, hg, _, _, hs, ht⟩
  · simp at e
  · simp only [Value.slice.injEq, Option.some.injEq, Addr.mk.injEq, and_true, true_and] at e
    obtain ⟨rfl, rfl⟩ := e
    rw [hg, ← ht, List.take_of_length_le (by simp [hs])]

/-- the bytes l in a block that may be written. -/
structure Cells (w : World) (B : Nat) (l : List Int) : Prop where
  cell : ∀ j, j < l.length → w.cell? ⟨B, j, none⟩ = some (.int .u8 (l.getD j 0))
  free : ∀ j, w.frozen? ⟨B, j, none⟩ = false

theorem Cells.of_block {w : World} {B : Nat} {l : List Int} (h : w.heap[B]? = some (.cells (ints l).toArray 5 (0, 0))) : Cells w B l := by
  refine ⟨fun j hj => ?_, fun j => by simp [World.frozen?, h]⟩
  simp [World.cell?, h, ints, List.getD_eq_getElem?_getD, List.getElem?_eq_getElem hj]

theorem Cells.made {w : World} {base n g : Nat} (h : w.ownsRow base 5 1 (.slice (some ⟨g, 0, none⟩) n n) n (madeCells (Value.int .u8 0).cells (n * 1)).toList) : Cells w g (List.replicate n 0) := by
  rw [made_zeros] at h
  exact .of_block (own_block h)

theorem Cells.store {w : World} {B : Nat} {l : List Int} (h : Cells w B l) (k : Nat) (v : Int) (hk : k < l.length) : Cells (w.setCell ⟨B, k, none⟩ (.int .u8 v)) B (l.set k v) := by
  refine ⟨fun j hj => ?_, fun j => by rw [World.frozen?_setCell]; exact h.free j⟩
  rw [List.length_set] at hj
  by_cases e : j = k
  · subst e
    rw [World.cell?_setCell_same _ _ _ (h.cell j hj), List.getD_eq_getElem?_getD, List.getElem?_set_self hj, Option.getD_some]
  · rw [World.cell?_setCell_other _ _ _ _ (by intro e2; exact e (congrArg Addr.off e2).symm), h.cell j hj, List.getD_eq_getElem?_getD, List.getD_eq_getElem?_getD, List.getElem?_set_ne (fun e2 => e e2.symm)]

theorem Cells.kept {w w' : World} {B C : Nat} {l : List Int} (h : Cells w B l) (hb : Below C w w') (hB : B < C) : Cells w' B l :=
  ⟨fun j hj => by rw [hb.cell (by exact hB)]; exact h.cell j hj, fun j => by rw [hb.frozen (by exact hB)]; exact h.free j⟩

theorem Cells.drew {w : World} {B m : Nat} {l : List Int} (h : Cells w B l) : Cells (w.drewN m) B l := ⟨h.cell, h.free⟩

theorem Cells.row {w : World} {B : Nat} {l : List Int} (h : Cells w B l) : Row w B l := h.cell

theorem drew_below {B m : Nat} {a w : World} (h : Below B a w) : Below B a (w.drewN m) := ⟨h.os, h.tape, h.output, h.size, h.block⟩

/-- a slice of bytes that came in. -/
def IsRow (k : IntKind) (w : World) (a : Option Addr) (len cap : Nat) (zs : List Int) : Prop :=
  (a = none ∧ len = 0 ∧ cap = 0 ∧ zs = []) ∨
  ∃ x, a = some x ∧ len ≤ cap ∧ cap ≤ maxLen ∧ zs.length = cap ∧ (∀ i, i < zs.length → w.cell? (x.add i) = some (.int k (zs.getD i 0))) ∧ ∀ n ∈ zs, (Lit.int k n).wf = true

theorem set_step {zs : List Int} {k len : Nat} (hk : k < len) (hz : len ≤ zs.length) : (zs.take k ++ List.replicate (len - k) 0).set k (zs.getD k 0) = zs.take (k + 1) ++ List.replicate (len - (k + 1)) 0 := by
  apply List.ext_getElem?
  intro i
  have hg : zs.getD k 0 = zs[k]'(by omega) := by rw [List.getD_eq_getElem?_getD, List.getElem?_eq_getElem (by omega)]; rfl
  rw [hg]
  by_cases e : k = i
  · subst e
    rw [List.getElem?_set_self (by simp; omega), List.getElem?_append_left (by simp; omega), List.getElem?_take, if_pos (by omega), List.getElem?_eq_getElem (by omega)]
  · rw [List.getElem?_set_ne e]
    by_cases hi : i < k
    · rw [List.getElem?_append_left (by simp; omega), List.getElem?_append_left (by simp; omega), List.getElem?_take, List.getElem?_take, if_pos hi, if_pos (by omega)]
    · rw [List.getElem?_append_right (by simp; omega), List.getElem?_append_right (by simp; omega)]
      simp only [List.length_take, List.getElem?_replicate]
      by_cases hq : i < len
      · rw [if_pos (by omega), if_pos (by omega)]
      · rw [if_neg (by omega), if_neg (by omega)]

set_option maxHeartbeats 2000000 in
theorem clone_some (x : Addr) (len cap : Nat) (zs : List Int) (w : World) (hl : len ≤ cap) (hz : zs.length = cap) (hlen : len ≤ 1048576) (hcell : ∀ i, i < zs.length → w.cell? (x.add i) = some (.int .u8 (zs.getD i 0))) :
    Calls Try.prog 8 #[.slice (some x) len cap] w fun e w' => e = .returned (.slice (some ⟨w.heap.size, 0, none⟩) len len) ∧ Hid (Cells w' w.heap.size (zs.take len)) ∧ w.heap.size < w'.heap.size ∧ Below w.heap.size w w' := by
  have q : ∀ (w : World) (a : Option Addr) (n c n' c' : Nat), (binOp .eql 22 (.slice a n c) (.slice none n' c')).run Try.prog w = .ok (.bool a.isNone) w := fun w a n c n' c' => Lib.run_eql_slice_nil w _ _ a n c n' c' Try.underlying22
  obtain ⟨i0, ei, ez, e1, e2⟩ := info_parts info5
  have HC : Hid (∀ i, i < zs.length → w.cell? (x.add i) = some (.int .u8 (zs.getD i 0))) := hcell
  have HZ : Hid (zs.length = cap) := hz
  clear hcell hz
  go_enter Try.func8, Try.ntmps8
  go_wp2_with (first | (at_make; refine wpList_make_full _ rfl _ _ 22 rfl w.heap.size 5 i0 (.int .u8 0) 1 Try.underlying22 ei ez e1 .i64 .i64 _ _ len rfl rfl rfl rfl (by rw [e2]; omega) (by unfold maxLen; omega) (Nat.le_refl _) ?_; intro w1 hown1 hgr1))
  have hc1 := Cells.made hown1
  have hb1 : Below w.heap.size w w1 := (Below.refl _ w).grown hgr1 (Nat.le_refl _) (by simp)
  have hs1 : w.heap.size < w1.heap.size := by
    rw [made_zeros] at hown1
    exact (Array.getElem?_eq_some_iff.1 (own_block hown1)).1
  clear hown1 hgr1
  go_loopw [4] (fun d wr => ∃ k : Nat, k ≤ len ∧ d = .int .i64 k ∧ Hid (Cells wr w.heap.size (zs.take k ++ List.replicate (len - k) 0)) ∧ w.heap.size < wr.heap.size ∧ Below w.heap.size w wr) (fun d _ => len - (intOf d).toNat)
  case atStart => exact ⟨0, Nat.zero_le _, rfl, show Cells _ _ _ by simpa using hc1, hs1, hb1⟩
  case round =>
    obtain ⟨k, hk, rfl, hc, hs, hb⟩ := hrel
    rename_i wr hKK
    by_cases hlt : k < len
    · have hzl := HZ.out
      have hsrc : wr.cell? (x.add k) = some (.int .u8 (zs.getD k 0)) := by
        have hck := HC.out k (by omega)
        rw [hb.cell (World.block_lt_of_cell? w _ hck)]
        exact hck
      have hll : k < (zs.take k ++ List.replicate (len - k) (0 : Int)).length := by simp; omega
      have hdst := hc.out.cell k hll
      have hfr := hc.out.free k
      have hnew := hc.out.store k (zs.getD k 0) hll
      rw [set_step hlt (by omega)] at hnew
      have HN : Hid (Cells (wr.setCell ⟨w.heap.size, k, none⟩ (.int .u8 (zs.getD k 0))) w.heap.size (zs.take (k + 1) ++ List.replicate (len - (k + 1)) 0)) := hnew
      clear hnew hc hll hzl
      generalize (zs.take k ++ List.replicate (len - k) (0 : Int)).getD k 0 = old at *
      generalize zs.getD k 0 = v at *
      have hlt2 : (k : Int) < (len : Int) := by omega
      go_wp2_with fail
      go_roundw
      case rel => exact ⟨k + 1, by omega, by go_num, HN, by rw [World.size_setCell]; exact hs, hb.setCell (Nat.le_refl _) _⟩
      case measure => simp [intOf]; omega
    · obtain rfl : k = len := by omega
      have hc' : Hid (Cells wr w.heap.size (zs.take k)) := by
        have := hc.out
        rw [Nat.sub_self, List.replicate_zero, List.append_nil] at this
        exact this
      clear hc
      go_wp2
      go_ret
      exact ⟨rfl, hc', hs, hb⟩

set_option maxHeartbeats 1000000 in
theorem clone_none (w : World) : Calls Try.prog 8 #[.slice none 0 0] w fun e w' => e = .returned (.slice none 0 0) ∧ w' = w := by
  have q : ∀ (w : World) (a : Option Addr) (n c n' c' : Nat), (binOp .eql 22 (.slice a n c) (.slice none n' c')).run Try.prog w = .ok (.bool a.isNone) w := fun w a n c n' c' => Lib.run_eql_slice_nil w _ _ a n c n' c' Try.underlying22
  go_enter Try.func8, Try.ntmps8
  go_wp2
  go_ret
  exact ⟨rfl, rfl⟩

/-- cloneBytes. -/
theorem clone_any (a : Option Addr) (len cap : Nat) (zs : List Int) (w : World) (h : IsRow .u8 w a len cap zs) (hlen : len ≤ 1048576) :
    Calls Try.prog 8 #[.slice a len cap] w fun e w' => ∃ ao, e = .returned (.slice ao len len) ∧ Sl w' ao (zs.take len) ∧ Hid ((zs.take len).length = len) ∧ Below w.heap.size w w' := by
  rcases h with ⟨rfl, rfl, rfl, rfl⟩ | ⟨x, rfl, hl, _, hz, hcell, _⟩
  · refine (clone_none w).mono ?_
    rintro e w1 ⟨rfl, rfl⟩
    exact ⟨none, rfl, fun h => by simp at h, show _ = _ by simp, Below.refl _ _⟩
  · refine (clone_some x len cap zs w hl hz hlen hcell).mono ?_
    rintro e w1 ⟨rfl, hg, hs, hb⟩
    exact ⟨_, rfl, fun _ => ⟨_, rfl, hg.out.row⟩, show _ = _ by simp; omega, hb⟩

set_option maxHeartbeats 1000000 in
theorem bytes_yes (a0 : Option Addr) (n0 c0 : Nat) (w : World) (h : n0 ≤ 1048576) :
    Calls Try.prog 7 #[.slice a0 n0 c0] w fun e w' => e = .returned (.bool true) ∧ w' = w := by
  go_enter Try.func7, Try.ntmps7
  go_wp2
  go_ret
  exact ⟨rfl, rfl⟩

set_option maxHeartbeats 1000000 in
theorem bytes_no (a0 : Option Addr) (n0 c0 : Nat) (w : World) (h0 : n0 ≤ 9223372036854775807) (h : ¬ n0 ≤ 1048576) :
    Calls Try.prog 7 #[.slice a0 n0 c0] w fun e w' => e = .returned (.bool false) ∧ w' = w := by
  go_enter Try.func7, Try.ntmps7
  go_wp2
  go_ret
  exact ⟨rfl, rfl⟩

theorem known_named (i : Nat) (hi : i < 12) (w : World) : Calls Try.prog 9 #[.int .i64 i] w fun e w' => ∃ (s : ByteArray) (k : Int), e = .returned (.tuple #[.string s, .int .u8 k]) ∧ Hid (s = nm i) ∧ Hid (k = kd i) ∧ 2 ≤ s.size ∧ s.size ≤ 19 ∧ 0 ≤ k ∧ k ≤ 7 ∧ w' = w :=
  (known i hi w).mono fun _ _ h => ⟨nm i, kd i, h.1, rfl, rfl, (t_small i hi).1, (t_small i hi).2, (t_kd i hi).1, (t_kd i hi).2, h.2⟩

/-- the law's own spelling test. -/
def Fit (l : List Int) (s : ByteArray) : Prop := l.length = s.size ∧ ∀ p, p < s.size → Fits (l.getD p 0) (bAt s p)

/-- a bool that tells whether p. -/
def Says (e : Ending) (p : Prop) : Prop := ∃ r : Bool, e = .returned (.bool r) ∧ (r = true ↔ p)
theorem says_no {p : Prop} (h : ¬ p) : Says (.returned (.bool false)) p := ⟨false, rfl, (no_iff h).out⟩
theorem says_yes {p : Prop} (h : p) : Says (.returned (.bool true)) p := ⟨true, rfl, (yes_iff h).out⟩

set_option maxHeartbeats 1000000 in
theorem foldEq_len (a : Option Addr) (n c : Nat) (l : List Int) (s : ByteArray) (w : World) (hl : l.length = n) (hn : n ≤ 2000000) (hs2 : s.size ≤ 19) (hne : n ≠ s.size) :
    Calls Try.prog 10 #[.slice a n c, .string s] w fun e w' => Says e (Fit l s) ∧ w' = w := by
  have HN : Hid (¬ Fit l s) := show ¬ _ from fun h => hne (by rw [← hl]; exact h.1)
  have hd : ((n : Int) == (s.size : Int)) = false := by rw [beq_eq_false_iff_ne]; omega
  clear hne hl
  go_enter Try.func10, Try.ntmps10
  go_wp2
  go_ret
  exact ⟨says_no HN.out, rfl⟩

set_option maxHeartbeats 2000000 in
theorem foldEq_same (b n c : Nat) (l : List Int) (s : ByteArray) (w : World) (hl : l.length = n) (hs2 : s.size ≤ 19) (hs : n = s.size) (hrow : Row w b l) :
    Calls Try.prog 10 #[.slice (some ⟨b, 0, none⟩) n c, .string s] w fun e w' => Says e (Fit l s) ∧ w' = w := by
  have HR : Hid (Row w b l) := hrow
  have HL : Hid (l.length = n) := hl
  have HS : Hid (n = s.size) := hs
  have hne : (((n : Int)) == (s.size : Int)) = true := by rw [beq_iff_eq]; omega
  have hn : n ≤ 19 := by omega
  clear hrow hl hs
  go_enter Try.func10, Try.ntmps10
  go_wp2_with fail
  go_loopw [5] (fun d wr => ∃ k : Nat, k ≤ n ∧ d = .int .i64 k ∧ wr = w ∧ Hid (∀ j, j < k → Fits (l.getD j 0) (bAt s j))) (fun d _ => n - (intOf d).toNat)
  case atStart => exact ⟨0, Nat.zero_le _, rfl, rfl, show ∀ j, j < 0 → _ from fun j hj => absurd hj (by omega)⟩
  case round =>
    obtain ⟨k, hk, rfl, hwr, hall⟩ := hrel
    have hwr' := hwr.symm
    subst hwr'
    clear hwr
    by_cases hlt : k < n
    · have hc := HR.out k (by have := HL.out; omega)
      have hks : k < s.size := by have := HS.out; omega
      have hlt2 : (k : Int) < (n : Int) := by omega
      have hks2 : (k : Int) < (s.size : Int) := by omega
      have hb := bAt_lt hks
      have hb255 := bAt_le s k
      generalize hv : l.getD k 0 = v at *
      by_cases he : Fits v (bAt s k)
      · have HE : Hid (∀ j, j < k + 1 → Fits (l.getD j 0) (bAt s j)) := show ∀ j, _ from by
          intro j hj
          by_cases hjk : j < k
          · exact hall.out j hjk
          · obtain rfl : j = k := by omega
            rw [hv]; exact he
        clear hall hv
        by_cases h1 : v = bAt s k
        · have hd : (v == ((s[k].toNat : Nat) : Int)) = true := by rw [hb, beq_iff_eq]; exact h1
          clear hb he h1 hb255
          go_wp2
          go_roundw
          case rel => exact ⟨k + 1, by omega, by go_num, trivial, HE⟩
          case measure => simp [intOf]; omega
        · have hd : (v == ((s[k].toNat : Nat) : Int)) = false := by rw [hb, beq_eq_false_iff_ne]; exact h1
          have h97 : 97 ≤ ((s[k].toNat : Nat) : Int) := by rw [hb]; unfold Fits at he; omega
          have h122 : ((s[k].toNat : Nat) : Int) ≤ 122 := by rw [hb]; unfold Fits at he; omega
          have hd2 : (v == ((s[k].toNat : Nat) : Int) - 32) = true := by rw [hb, beq_iff_eq]; unfold Fits at he; omega
          clear hb he h1 hb255
          go_wp2
          go_roundw
          case rel => exact ⟨k + 1, by omega, by go_num, trivial, HE⟩
          case measure => simp [intOf]; omega
      · have HN : Hid (¬ Fit l s) := show ¬ _ from fun h => he (by rw [← hv]; exact h.2 k hks)
        have h1 : v ≠ bAt s k := fun e => he (.inl e)
        have hd : (v == ((s[k].toNat : Nat) : Int)) = false := by rw [hb, beq_eq_false_iff_ne]; exact h1
        clear hall hv
        by_cases h97 : 97 ≤ ((s[k].toNat : Nat) : Int)
        · by_cases h122 : ((s[k].toNat : Nat) : Int) ≤ 122
          · have hd2 : (v == ((s[k].toNat : Nat) : Int) - 32) = false := by rw [hb, beq_eq_false_iff_ne]; rw [hb] at h97 h122; unfold Fits at he; omega
            clear hb he h1 hb255
            go_wp2
            go_ret
            exact ⟨says_no HN.out, rfl⟩
          · clear hb he h1 hb255
            go_wp2
            go_ret
            exact ⟨says_no HN.out, rfl⟩
        · clear hb he h1 hb255
          go_wp2
          go_ret
          exact ⟨says_no HN.out, rfl⟩
    · have HE : Hid (Fit l s) := (⟨HL.out.trans HS.out, fun i hi => hall.out i (by have := HS.out; omega)⟩ : Fit l s)
      have hsz : ¬ ((k : Int) < (s.size : Int)) := by have := HS.out; omega
      clear hall
      go_wp2
      go_ret
      exact ⟨says_yes HE.out, rfl⟩

theorem foldEq (a : Option Addr) (n c : Nat) (l : List Int) (s : ByteArray) (w : World) (hl : l.length = n) (hn : n ≤ 2000000) (hs1 : 2 ≤ s.size) (hs2 : s.size ≤ 19) (h : Sl w a l) :
    Calls Try.prog 10 #[.slice a n c, .string s] w fun e w' => Says e (Fit l s) ∧ w' = w := by
  by_cases hs : n = s.size
  · obtain ⟨b, rfl, hr⟩ := h (by omega)
    exact foldEq_same b n c l s w hl hs2 hs hr
  · exact foldEq_len a n c l s w hl hn hs2 hs
end Go.Proofs.Qxb6605477a.KindAids
