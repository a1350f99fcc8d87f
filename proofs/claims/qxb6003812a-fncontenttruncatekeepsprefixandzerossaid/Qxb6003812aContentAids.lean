/-
  The small functions of the content laws: zzCloneBytes (19), zzOverlapsPage (25), the two bounds (18, 26); the writes and reads with nothing told apart.
-/
import Derived.Test.Qxb6003812aContentRead
import Derived.Lib.SliceRun
namespace Go.Proofs.Qxb6003812a.ContentAids
open Go.RowKit Go.Proofs.Qxb6003812a.ContentPage Go.Proofs.Qxb6003812a.ContentSet Go.Proofs.Qxb6003812a.ContentPlain Go.Proofs.Qxb6003812a.ContentWrite Go.Proofs.Qxb6003812a.ContentRead

/-- a slice of bytes that came in. -/
def IsRow (k : IntKind) (w : World) (a : Option Addr) (len cap : Nat) (zs : List Int) : Prop :=
  (a = none ∧ len = 0 ∧ cap = 0 ∧ zs = []) ∨
  ∃ x, a = some x ∧ len ≤ cap ∧ cap ≤ maxLen ∧ zs.length = cap ∧ (∀ i, i < zs.length → w.cell? (x.add i) = some (.int k (zs.getD i 0))) ∧ ∀ n ∈ zs, (Lit.int k n).wf = true

/-- a slice of n bytes l of the call's own, in a block from 'lo' up to 'hi'. -/
def Own (w : World) (lo hi : Nat) (ao : Option Addr) (l : List Int) : Prop :=
  0 < l.length → ∃ b, ao = some ⟨b, 0, none⟩ ∧ lo ≤ b ∧ b < hi ∧ w.heap[b]? = some (.cells (ints l).toArray 5 (0, 0))

theorem made_zeros (n : Nat) : (madeCells (Value.int .u8 0).cells (n * 1)).toList = ints (List.replicate n 0) := by
  unfold madeCells
  rw [Nat.mul_one]
  apply List.ext_getElem
  · simp [ints]
  · intro i h1 h2
    simp [ints, zc, Nat.mod_one]

theorem own_block {w : World} {base n : Nat} {g : Nat} {l : List Int} (h : w.ownsRow base 5 1 (.slice (some ⟨g, 0, none⟩) n n) n (ints l)) : w.heap[g]? = some (.cells (ints l).toArray 5 (0, 0)) := by
  rcases h.2 with ⟨e, _⟩ | ⟨g', cap, cur, e, _, hg, _, _, hs, ht⟩
  · simp at e
  · simp only [Value.slice.injEq, Option.some.injEq, Addr.mk.injEq, and_true, true_and] at e
    obtain ⟨rfl, rfl⟩ := e
    rw [hg, ← ht, List.take_of_length_le (by simp [hs])]

set_option maxHeartbeats 1000000 in
theorem clone_some (x : Addr) (len cap : Nat) (zs : List Int) (w : World) (hl : len ≤ cap) (hz : zs.length = cap) (hlen : len ≤ 1000000) (hcell : ∀ i, i < zs.length → w.cell? (x.add i) = some (.int .u8 (zs.getD i 0))) :
    Calls Try.prog 19 #[.slice (some x) len cap] w fun e w' => e = .returned (.slice (some ⟨w.heap.size, 0, none⟩) len len) ∧ Hid (w'.heap[w.heap.size]? = some (.cells (ints (zs.take len)).toArray 5 (0, 0))) ∧ w.heap.size < w'.heap.size ∧ Below w.heap.size w w' := by
  have q : ∀ (w : World) (a : Option Addr) (n c n' c' : Nat), (binOp .eql 39 (.slice a n c) (.slice none n' c')).run Try.prog w = .ok (.bool a.isNone) w := fun w a n c n' c' => Lib.run_eql_slice_nil w _ _ a n c n' c' Try.underlying39
  obtain ⟨i0, ei, ez, e1, e2⟩ := info_parts info5
  have HC : Hid (∀ i, i < zs.length → w.cell? (x.add i) = some (.int .u8 (zs.getD i 0))) := hcell
  have HZ : Hid (zs.length = cap) := hz
  clear hcell hz
  go_enter Try.func19, Try.ntmps19
  go_wp2_with (first | (at_make; refine wpList_make_full _ rfl _ _ 39 rfl w.heap.size 5 i0 (.int .u8 0) 1 Try.underlying39 ei ez e1 .i64 .i64 _ _ len rfl rfl rfl rfl (by rw [e2]; omega) (by unfold maxLen; omega) (Nat.le_refl _) ?_; intro w1 hown1 hgr1) | (with_reducible refine BuiltinLaws.copy_at 5 Try.underlying39 ?hsz (some ⟨w.heap.size, 0, none⟩) (some x) len len len cap ?hd ?hs w.heap.size 0 (ints (List.replicate len 0)) 5 ?hg (ints (zs.take len)) ?hn ?hpos ?hfit (ints_one _) ?_))
  case hsz => kernel_rfl
  case hd => rfl
  case hs => rfl
  case hg =>
    rw [made_zeros] at hown1
    exact own_block hown1
  case hn => have := HZ.out; simp [ints]; omega
  case hpos =>
    have hz := HZ.out
    intro _ j v hj
    have hjl : j < zs.length ∧ some (Value.int .u8 (zs.getD j 0)) = some v := by
      simp only [ints, List.getElem?_map, List.getElem?_take] at hj
      split at hj
      · have : j < zs.length := by omega
        rw [List.getElem?_eq_getElem this] at hj
        refine ⟨this, ?_⟩
        simpa [List.getD_eq_getElem?_getD, List.getElem?_eq_getElem this] using hj
      · cases hj
    have hb1 := (HC.out j hjl.1).trans hjl.2
    exact hgr1.cell hb1 (by simp)
  case hfit => have := HZ.out; simp [ints]; omega
  intro w2 hg2 hgr2
  have hlen2 : splice (ints (List.replicate len 0)) 0 (ints (zs.take len)) = ints (zs.take len) := by
    have := HZ.out
    unfold splice
    rw [List.drop_eq_nil_of_le (by simp [ints]; omega)]
    simp
  rw [hlen2] at hg2
  have hb2 : Below w.heap.size w w2 := ((Below.refl _ w).grown hgr1 (Nat.le_refl _) (by simp)).grown hgr2.out hgr1.size (fun k hk => by simp at hk; omega)
  have hs2 : w.heap.size < w2.heap.size := (Array.getElem?_eq_some_iff.1 hg2.out).1
  clear hown1 hgr1 hgr2 hlen2
  go_wp2
  go_ret
  exact ⟨rfl, hg2, hs2, hb2⟩

set_option maxHeartbeats 1000000 in
theorem clone_none (w : World) : Calls Try.prog 19 #[.slice none 0 0] w fun e w' => e = .returned (.slice none 0 0) ∧ w' = w := by
  have q : ∀ (w : World) (a : Option Addr) (n c n' c' : Nat), (binOp .eql 39 (.slice a n c) (.slice none n' c')).run Try.prog w = .ok (.bool a.isNone) w := fun w a n c n' c' => Lib.run_eql_slice_nil w _ _ a n c n' c' Try.underlying39
  go_enter Try.func19, Try.ntmps19
  go_wp2
  go_ret
  exact ⟨rfl, rfl⟩

/-- zzCloneBytes. -/
theorem clone_any (a : Option Addr) (len cap : Nat) (zs : List Int) (w : World) (h : IsRow .u8 w a len cap zs) (hlen : len ≤ 1000000) :
    Calls Try.prog 19 #[.slice a len cap] w fun e w' => ∃ ao, e = .returned (.slice ao len len) ∧ Own w' w.heap.size w'.heap.size ao (zs.take len) ∧ Hid ((zs.take len).length = len) ∧ Below w.heap.size w w' := by
  rcases h with ⟨rfl, rfl, rfl, rfl⟩ | ⟨x, rfl, hl, _, hz, hcell, _⟩
  · refine (clone_none w).mono ?_
    rintro e w1 ⟨rfl, rfl⟩
    exact ⟨none, rfl, fun h => by simp at h, show _ = _ by simp, Below.refl _ _⟩
  · refine (clone_some x len cap zs w hl hz hlen hcell).mono ?_
    rintro e w1 ⟨rfl, hg, hs, hb⟩
    exact ⟨_, rfl, fun _ => ⟨_, rfl, Nat.le_refl _, hs, hg.out⟩, show _ = _ by simp; omega, hb⟩

theorem Own.kept {w w' : World} {lo hi B : Nat} {ao : Option Addr} {l : List Int} (h : Own w lo hi ao l) (hb : Below B w w') (hB : hi ≤ B) : Own w' lo hi ao l := by
  intro hl
  obtain ⟨b, e, h1, h2, h3⟩ := h hl
  exact ⟨b, e, h1, h2, by rw [hb.block b (by omega)]; exact h3⟩

/-- does a run of n bytes from start touch page i? -/
def ov (i start n : Int) : Bool := decide (0 < n ∧ start < i * 65536 + 65536 ∧ i * 65536 < start + n)

theorem ov_false {i start n : Int} (h : ¬ (0 < n ∧ start < i * 65536 + 65536 ∧ i * 65536 < start + n)) : ov i start n = false := decide_eq_false h
theorem ov_eq {i start n : Int} (h0 : 0 < n) (h1 : start < i * 65536 + 65536) : ov i start n = decide (i * 65536 < start + n) := by
  unfold ov
  rw [decide_eq_decide]
  omega

set_option maxHeartbeats 1000000 in
theorem overlaps (i start n : Int) (w : World) (hi : 0 ≤ i) (hi2 : i ≤ 100) (hs : 0 ≤ start) (hs2 : start ≤ 1000000) (hn : 0 ≤ n) (hn2 : n ≤ 1000000) :
    Calls Try.prog 25 #[.int .i64 i, .int .i64 start, .int .i64 n] w fun e w' => e = .returned (.bool (ov i start n)) ∧ w' = w := by
  by_cases h0 : n ≤ 0
  · rw [ov_false (by omega)]
    go_enter Try.func25, Try.ntmps25
    go_wp2
    go_ret
    exact ⟨rfl, rfl⟩
  · by_cases h1 : start < i * 65536 + 65536
    · rw [ov_eq (by omega) h1]
      go_enter Try.func25, Try.ntmps25
      go_wp2
      go_ret
      exact ⟨rfl, rfl⟩
    · rw [ov_false (by omega)]
      go_enter Try.func25, Try.ntmps25
      go_wp2
      go_ret
      exact ⟨rfl, rfl⟩

/-- ZZWriteAt of whatever slice of the call's own. -/
theorem write_any (w : World) (cb cnt : Nat) (sz : Int) (r : Option Nat) (p : Pages) (h : Con w cb cnt sz r p) (ao : Option Addr) (n : Nat) (l : List Int) (hl : l.length = n) (lo : Nat) (hown : Own w lo cb ao l)
    (off : Nat) (offI : Int) (hoff : offI = (off : Int)) (hb : off + n ≤ 1000000) (hcnt : cnt + n ≤ 1000000) :
    Calls Try.prog 21 #[.pointer (some ⟨cb, 0, none⟩), .slice ao n n, .int .i64 offI] w fun e w' =>
      e = .returned (.tuple #[]) ∧ ∃ r' p', Con w' cb (cnt + n) (max sz (off + n)) r' p' ∧ Wr p off l n p' ∧ Below cb w w' := by
  subst hoff
  by_cases hn : n = 0
  · subst hn
    refine (zzWrite_nothing w cb cnt sz r p h ao 0 off (by omega)).mono ?_
    rintro e w1 ⟨rfl, hc, hb1⟩
    exact ⟨rfl, r, p, by simpa using hc, Wr.start p off l, hb1⟩
  · obtain ⟨b, rfl, _, hlt, hg⟩ := hown (by omega)
    exact zzWrite w cb cnt sz r p h b n l hl hlt hg off (by omega) hb hcnt

/-- ZZReadAt of all that there is. -/
theorem read_any (w : World) (cb cnt n : Nat) (r : Option Nat) (p : Pages) (h : Con w cb cnt (n : Int) r p) (hn2 : n ≤ 1000000) (gb : Nat) (hgb : gb ≠ cb) (cur0 : List Value) (hcl : cur0.length = n) (hcur : w.heap[gb]? = some (.cells cur0.toArray 5 (0, 0)))
    (hfr : ∀ i, (p.val i).ownBlock = none ∨ (p.val i).ownBlock ≠ some gb) :
    Calls Try.prog 23 #[.pointer (some ⟨cb, 0, none⟩), .slice (some ⟨gb, 0, none⟩) n n, .int .i64 0] w fun e w' =>
      e = .returned (.int .i64 n) ∧ Hid (w'.heap[gb]? = some (.cells (ints ((List.range n).map (rd p))).toArray 5 (0, 0))) ∧ w.grownBy w' (some gb) := by
  by_cases hn : n = 0
  · subst hn
    refine (zzRead_end w cb cnt 0 r p h _ 0 (Int.le_refl _)).mono ?_
    rintro e w1 ⟨rfl, rfl⟩
    obtain rfl : cur0 = [] := List.eq_nil_of_length_eq_zero hcl
    exact ⟨rfl, hcur, grown_refl _ _⟩
  · exact zzRead_all w cb cnt n r p h (by omega) hn2 gb hgb cur0 hcl hcur hfr

set_option maxHeartbeats 1000000 in
theorem bytes_yes (a0 a1 : Option Addr) (n0 c0 n1 c1 : Nat) (off : Int) (w : World) (h : n0 + n1 ≤ 1048576) :
    Calls Try.prog 18 #[.slice a0 n0 c0, .slice a1 n1 c1, .int .i64 off] w fun e w' => e = .returned (.bool true) ∧ w' = w := by
  go_enter Try.func18, Try.ntmps18
  go_wp2
  go_ret
  exact ⟨rfl, rfl⟩

set_option maxHeartbeats 1000000 in
theorem bytes_no (a0 a1 : Option Addr) (n0 c0 n1 c1 : Nat) (off : Int) (w : World) (h0 : n0 ≤ 9223372036854775807) (h1 : n1 ≤ 9223372036854775807) (h : 1048576 < n0 + n1) :
    Calls Try.prog 18 #[.slice a0 n0 c0, .slice a1 n1 c1, .int .i64 off] w fun e w' => e = .returned (.bool false) ∧ w' = w := by
  by_cases h2 : n0 ≤ 1048576
  · by_cases h3 : n1 ≤ 1048576
    · go_enter Try.func18, Try.ntmps18
      go_wp2
      go_ret
      exact ⟨rfl, rfl⟩
    · go_enter Try.func18, Try.ntmps18
      go_wp2
      go_ret
      exact ⟨rfl, rfl⟩
  · go_enter Try.func18, Try.ntmps18
    go_wp2
    go_ret
    exact ⟨rfl, rfl⟩

theorem IsRow.len {k : IntKind} {w : World} {a : Option Addr} {len cap : Nat} {zs : List Int} (h : IsRow k w a len cap zs) : len ≤ 9223372036854775807 := by
  rcases h with ⟨_, rfl, _, _⟩ | ⟨x, _, h1, h2, _⟩
  · omega
  · unfold maxLen at h2; omega
end Go.Proofs.Qxb6003812a.ContentAids
