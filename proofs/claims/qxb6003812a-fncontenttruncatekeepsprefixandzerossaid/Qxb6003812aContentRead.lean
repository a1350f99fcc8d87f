/-
  content.readAt (36): a read from 0 of as many bytes as the content has, and a read at or behind its end.
-/
import Derived.Test.Qxb6003812aContentWrite
namespace Go.Proofs.Qxb6003812a.ContentRead
open Go.RowKit Go.Proofs.Qxb6003812a.ContentPage Go.Proofs.Qxb6003812a.ContentSet Go.Proofs.Qxb6003812a.ContentPlain Go.Proofs.Qxb6003812a.ContentWrite

/-- the row that is filled, k bytes in. -/
def row (p : Pages) (cur0 : List Value) (k : Nat) : List Value := ints ((List.range k).map (rd p)) ++ cur0.drop k

theorem row_zero (p : Pages) (cur0 : List Value) : row p cur0 0 = cur0 := by simp [row, ints]
theorem row_full (p : Pages) (cur0 : List Value) (n : Nat) (h : cur0.length ≤ n) : row p cur0 n = ints ((List.range n).map (rd p)) := by simp [row, List.drop_eq_nil_of_le h]
theorem row_length (p : Pages) (cur0 : List Value) (k n : Nat) (hk : k ≤ n) (h : cur0.length = n) : (row p cur0 k).length = n := by simp [row, ints]; omega

theorem splice_two {α : Type} (R s z : List α) (k : Nat) (h : k + s.length + z.length ≤ R.length) : splice (splice R k s) (k + s.length) z = splice R k (s ++ z) := by
  unfold splice
  have e1 : (R.take k).length = k := by simp; omega
  have e2 : (R.take k ++ (s ++ R.drop (k + s.length))).take (k + s.length) = R.take k ++ s := by
    rw [← List.append_assoc, List.take_left' (by simp; omega)]
  have e3 : (R.take k ++ (s ++ R.drop (k + s.length))).drop (k + s.length + z.length) = R.drop (k + (s.length + z.length)) := by
    rw [← List.append_assoc, List.drop_append, List.length_append, e1, List.drop_eq_nil_of_le (by simp; omega), List.nil_append, List.drop_drop]
    congr 1
    omega
  rw [e2, e3]
  simp [List.append_assoc]

theorem row_step (p : Pages) (cur0 : List Value) (k sp : Nat) (x : List Value) (hx : x = ints ((List.range sp).map (fun j => rd p (k + j)))) : splice (row p cur0 k) k x = row p cur0 (k + sp) := by
  have hxl : x.length = sp := by rw [hx]; simp [ints]
  have hl : (ints ((List.range k).map (rd p))).length = k := by simp [ints]
  unfold splice row
  rw [hxl, List.take_left' hl, List.drop_append, List.drop_eq_nil_of_le (by rw [hl]; omega), hl, List.nil_append, List.drop_drop, hx]
  rw [show k + (k + sp - k) = k + sp from by omega]
  rw [← List.append_assoc]
  congr 1
  rw [List.range_add]
  simp [ints]

/-- what one round reads: the page's bytes, then zeros. -/
theorem round_bytes (p : Pages) (k i a sp : Nat) (hi : i = k / 65536) (ha : a = k % 65536) (hsp : a + sp ≤ 65536) :
    ints (((p.pg i).drop a).take sp) ++ List.replicate (sp - (((p.pg i).drop a).take sp).length) (.int .u8 0) = ints ((List.range sp).map (fun j => rd p (k + j))) := by
  have e : ((p.pg i).drop a).take sp ++ List.replicate (sp - (((p.pg i).drop a).take sp).length) 0 = (List.range sp).map (fun j => rd p (k + j)) := by
    apply List.ext_getElem?
    intro j
    by_cases hj : j < sp
    · have e1 : (k + j) / 65536 = i := by omega
      have e2 : (k + j) % 65536 = a + j := by omega
      have hr : ((List.range sp).map (fun j => rd p (k + j)))[j]? = some (((p.pg i).getD (a + j) 0)) := by
        rw [List.getElem?_map, List.getElem?_range hj]
        simp only [Option.map_some, rd, e1, e2]
      rw [hr]
      simp only [List.getElem?_append, List.getElem?_take, List.getElem?_drop, List.getElem?_replicate, List.getD_eq_getElem?_getD, List.length_take, List.length_drop, if_pos hj]
      by_cases h1 : a + j < (p.pg i).length
      · rw [if_pos (by omega), List.getElem?_eq_getElem h1]
        rfl
      · rw [if_neg (by omega), if_pos (by omega), List.getElem?_eq_none (by omega)]
        rfl
    · rw [List.getElem?_eq_none (by simp; omega), List.getElem?_eq_none (by simp; omega)]
  rw [← e]
  simp [ints]

theorem splice_nil {α : Type} (R : List α) (k : Nat) : splice R k [] = R := by simp [splice]

/-- the cells of a page's part. -/
theorem page_cells {w : World} {g a sp L : Nat} {l : List Int} {cur : List Value} (h : w.heap[g]? = some (.cells cur.toArray 5 (0, 0))) (htk : cur.take L = ints l) : ∀ j v, (ints ((l.drop a).take sp))[j]? = some v → w.cell? ((⟨g, a, none⟩ : Addr).add j) = some v := by
  intro j v hj
  have hadd : (⟨g, a, none⟩ : Addr).add j = ⟨g, a + j, none⟩ := by unfold Addr.add; split <;> simp_all
  rw [hadd, cell_of_row w g (a + j) _ 5 (0, 0) h]
  simp only [ints, List.getElem?_map, List.getElem?_take, List.getElem?_drop] at hj
  split at hj
  · have hx : (ints l)[a + j]? = some v := by simpa [ints] using hj
    rw [← htk, List.getElem?_take] at hx
    split at hx
    · simpa using hx
    · cases hx
  · cases hj

/-- a content stays what it is while another block of cells is written. -/
theorem con_other {w w1 : World} {cb cnt gb : Nat} {sz : Int} {r : Option Nat} {p : Pages} (h : Con w cb cnt sz r p) (hg : w.grownBy w1 (some gb)) (hne : gb ≠ cb) {cur : Array Value} (hcur : w.heap[gb]? = some (.cells cur 5 (0, 0)))
    (hfr : ∀ i, (p.val i).ownBlock = none ∨ (p.val i).ownBlock ≠ some gb) : Con w1 cb cnt sz r p := by
  refine ⟨?_, ?_, fun j => (h.row j).kept hg (hfr j), h.apart, h.len⟩
  · rw [hg.block cb h.lt (by simp; omega)]
    exact h.blk
  · rcases h.mp with hn | ⟨mb, D, h1, h2, h3, h4⟩
    · exact .inl hn
    · refine .inr ⟨mb, D, h1, h2, h3.kept hg ?_, h4⟩
      intro e
      simp only [Option.some.injEq] at e
      subst e
      obtain ⟨es, clock, hb, _⟩ := h3
      rw [hcur] at hb
      cases hb

theorem grown_trans {w w1 w2 : World} {row : Option Nat} (h : w.grownBy w1 row) (h' : w1.grownBy w2 row) : w.grownBy w2 row :=
  ⟨h'.os.trans h.os, h'.tape.trans h.tape, h'.output.trans h.output, Nat.le_trans h.size h'.size, fun k hk hr => (h'.block k (Nat.lt_of_lt_of_le hk h.size) hr).trans (h.block k hk hr)⟩

theorem zc : (Value.int .u8 0).cells = #[.int .u8 0] := rfl
theorem z1 : (Value.int .u8 0).oneCell' = true := rfl

theorem grown_refl (w : World) (row : Option Nat) : w.grownBy w row := ⟨rfl, rfl, rfl, Nat.le_refl _, fun _ _ _ => rfl⟩

set_option maxHeartbeats 1000000 in
theorem readAt_end (w : World) (cb cnt : Nat) (sz : Int) (r : Option Nat) (p : Pages) (hcon : Con w cb cnt sz r p) (v : Value) (off : Int) (ho : sz ≤ off) :
    Calls Try.prog 36 #[.pointer (some ⟨cb, 0, none⟩), v, .int .i64 off] w fun e w' => e = .returned (.int .i64 0) ∧ w' = w := by
  have c0 := hcon.c0
  go_enter Try.func36, Try.ntmps36
  go_wp2
  go_ret
  exact ⟨rfl, rfl⟩

set_option maxHeartbeats 4000000 in
set_option maxRecDepth 100000 in
theorem readAt_all (w : World) (cb cnt n : Nat) (r : Option Nat) (p : Pages) (h : Con w cb cnt (n : Int) r p) (hn : 0 < n) (hn2 : n ≤ 1000000) (gb : Nat) (hgb : gb ≠ cb) (cur0 : List Value) (hcl : cur0.length = n) (hcur : w.heap[gb]? = some (.cells cur0.toArray 5 (0, 0)))
    (hfr : ∀ i, (p.val i).ownBlock = none ∨ (p.val i).ownBlock ≠ some gb) :
    Calls Try.prog 36 #[.pointer (some ⟨cb, 0, none⟩), .slice (some ⟨gb, 0, none⟩) n n, .int .i64 0] w fun e w' =>
      e = .returned (.int .i64 n) ∧ w'.heap[gb]? = some (.cells (ints ((List.range n).map (rd p))).toArray 5 (0, 0)) ∧ w.grownBy w' (some gb) := by
  have c0 := h.c0
  have HC : Hid (w.heap[gb]? = some (.cells cur0.toArray 5 (0, 0))) := hcur
  have HL : Hid (cur0.length = n) := hcl
  have HF : Hid (∀ i, (p.val i).ownBlock = none ∨ (p.val i).ownBlock ≠ some gb) := hfr
  clear hcur hcl hfr
  have hz0 : decide (n = 0) = false := by simp; omega
  go_enter Try.func36, Try.ntmps36
  go_wp2
  go_loopw [8] (fun d wr => ∃ k : Nat, k ≤ n ∧ d = .int .i64 k ∧ Hid (wr.heap[gb]? = some (.cells (row p cur0 k).toArray 5 (0, 0))) ∧ w.grownBy wr (some gb)) (fun d _ => n - (intOf d).toNat)
  case atStart => exact ⟨0, Nat.zero_le _, rfl, show _ = _ by rw [row_zero]; exact HC.out, grown_refl _ _⟩
  case round =>
    obtain ⟨k, hk, rfl, hrow, hgr⟩ := hrel
    by_cases hlt : k < n
    · have hc : Con wr cb cnt (n : Int) r p := con_other h hgr hgb HC.out HF.out
      clear c0 hz0
      go_wp2_with fail
      rw [show ((k : Int) / 65536) = ((k / 65536 : Nat) : Int) from by omega]
      refine (page_call hc (k / 65536) (by omega)).mono ?_
      rintro e w1 ⟨rfl, hw1⟩
      have hw2 := hw1.symm
      subst hw2
      clear hw1
      obtain ⟨i, hi⟩ : ∃ i, i = k / 65536 := ⟨_, rfl⟩
      rw [← hi]
      have HI : Hid (i = k / 65536) := hi
      clear hi
      go_upto_region 8 with fail
      go_cut [9, 11, 12] from 30 to 68 (fun s9 s11 s12 wx => ∃ a sp : Nat, a = k % 65536 ∧ sp = min (n - k) (65536 - a) ∧ s9 = .int .i64 (k : Int) ∧ s11 = .int .i64 (a : Int) ∧ s12 = .int .i64 (sp : Int) ∧ wx = wr)
      case first =>
        go_wp2
        all_goals
          go_meet
          case rel => exact ⟨k % 65536, min (n - k) (65536 - k % 65536), rfl, rfl, by go_num, by go_num, by go_num, rfl⟩
      case rest =>
        obtain ⟨a, sp, ha, hsp, rfl, rfl, rfl, rfl⟩ := hcut
        have HA : Hid (a = k % 65536) := ha
        have ha1 : a < 65536 := by omega
        have hsp1 : 0 < sp := by omega
        have hsp2 : a + sp ≤ 65536 := by omega
        have hsp3 : k + sp ≤ n := by omega
        clear ha hsp
        have hnk : ¬ n = k := by omega
        have hks : (k : Int) + (sp : Int) ≤ (n : Int) := by omega
        have hks2 : ((k : Int) + (sp : Int)).toNat = k + sp := by omega
        have hks3 : k ≤ k + sp := by omega
        have hks4 : k + sp - k = sp := by omega
        go_upto_if 57 with fail
        obtain ⟨cs, hcs⟩ : ∃ cs : List Value, cs = ints (((p.pg i).drop a).take sp) := ⟨_, rfl⟩
        have HCS : Hid (cs = ints (((p.pg i).drop a).take sp)) := hcs
        have X1 : Hid (cs.length = min sp ((p.pg i).length - a)) := show _ = _ by rw [hcs]; simp [ints]
        have X4 : Hid ((row p cur0 k).length = n) := row_length p cur0 k n (by omega) HL.out
        clear hcs
        go_cut [10, 14] from 30 to 68 (fun _ s14 wx => s14 = .int .i64 (cs.length : Int) ∧ Hid (wx.heap[gb]? = some (.cells (splice (row p cur0 k) k cs).toArray 5 (0, 0))) ∧ w.grownBy wx (some gb))
        case first =>
          by_cases hal : a < (p.pg i).length
          · obtain ⟨g, hpa, _⟩ := pad_same hc i (a + 1) (by omega) (by omega)
            have hval : p.val i = .slice (some ⟨g, 0, none⟩) (p.pg i).length (p.pc i) := by unfold Pages.val; rw [hpa]
            obtain ⟨cur, hg, hcg, hcl, hlc, hcm, htk⟩ := row_open hc i g (p.pc i) hval
            have X2 : Hid (∀ j v, cs[j]? = some v → wc.cell? ((⟨g, a, none⟩ : Addr).add j) = some v) := by rw [HCS.out]; exact page_cells hg htk
            have X3 : Hid (∀ v ∈ cs, v.oneCell' = true) := by rw [HCS.out]; exact ints_one _
            rw [hpa]
            clear hg hcl htk hpa hval HCS
            generalize (p.pg i).length = L at *
            generalize p.pc i = cap at *
            unfold maxLen at hcm
            have hca : ¬ cap = a := by omega
            have haL : a ≤ L := by omega
            go_wp2_with (with_reducible refine BuiltinLaws.copy_at 5 Try.underlying39 ?hsz (some ⟨gb, k, none⟩) (some ⟨g, a, none⟩) sp (n - k) (L - a) (cap - a) ?hd ?hs gb k (row p cur0 k) 5 hrow.out cs ?hn ?hpos ?hfit X3.out ?_)
            case hsz => kernel_rfl
            case hd => rfl
            case hs => rfl
            case hn => rw [X1.out]; show min sp (L - a) = min (L - a) sp; omega
            case hpos => exact fun _ j v hj => by have := X2.out j v hj; simpa [Addr.add_lit] using this
            case hfit => rw [X1.out, X4.out]; omega
            intro w4 hg4 hgr4
            have hw4 := grown_trans hgr hgr4.out
            clear X2 hgr4
            go_wp2
            go_meet
            case rel => exact ⟨rfl, hg4, hw4⟩
          · have he : cs = [] := by rw [HCS.out, List.drop_eq_nil_of_le (by omega)]; simp [ints]
            subst he
            go_wp2
            go_meet
            case rel => exact ⟨rfl, show _ = _ by rw [splice_nil]; exact hrow.out, hgr⟩
        case rest =>
          obtain ⟨rfl, hrow1, hgr1⟩ := hcut
          have hsl : (splice (row p cur0 k) k cs).length = n := by rw [length_splice _ _ _ (by rw [X1.out, X4.out]; omega)]; exact X4.out
          have hfin : splice (splice (row p cur0 k) k cs) (k + cs.length) (List.replicate (sp - cs.length) (.int .u8 0)) = row p cur0 (k + sp) := by
            rw [splice_two _ _ _ _ (by rw [X4.out, X1.out]; simp; omega)]
            refine row_step p cur0 k sp _ ?_
            rw [← round_bytes p k i a sp HI.out HA.out hsp2, HCS.out]
            simp [ints]
          have HFN : Hid (splice (splice (row p cur0 k) k cs) (k + cs.length) (List.replicate (sp - cs.length) (.int .u8 0)) = row p cur0 (k + sp)) := hfin
          have HSL : Hid ((splice (row p cur0 k) k cs).length = n) := hsl
          have hcl : cs.length ≤ sp := by rw [X1.out]; omega
          clear hsl hfin HCS X1 X4
          generalize cs.length = c at *
          obtain ⟨i0, ei, ez, e1, e2⟩ := info_parts info5
          have EI : Hid (Try.prog.info? 5 = some i0) := ei
          have EZ : Hid (i0.zero = some (.int .u8 0)) := ez
          clear ei ez e1 e2
          by_cases hcase : n - k = c
          · go_wp2_with (with_reducible refine BuiltinLaws.clear_at 5 i0 (.int .u8 0) Try.underlying39 EI.out EZ.out zc z1 (some ⟨gb, k, none⟩) (sp - c) 0 ?hd1 gb (k + c) (splice (row p cur0 k) k cs) 5 hrow1.out ?hpos1 ?hfit1 ?_)
            case hd1 => rfl
            case hpos1 => exact fun hh => absurd hh (by omega)
            case hfit1 => rw [HSL.out]; omega
            intro w4 hg4 hgr4
            rw [HFN.out] at hg4
            have hw4 := grown_trans hgr1 hgr4.out
            clear hgr4 HFN HSL hrow hrow1
            go_wp2
            go_roundw
            case rel => exact ⟨k + sp, by omega, by go_num, hg4, hw4⟩
            case measure => simp [intOf]; omega
          · go_wp2_with (with_reducible refine BuiltinLaws.clear_at 5 i0 (.int .u8 0) Try.underlying39 EI.out EZ.out zc z1 (some ⟨gb, k + c, none⟩) (sp - c) (n - k - c) ?hd2 gb (k + c) (splice (row p cur0 k) k cs) 5 hrow1.out ?hpos2 ?hfit2 ?_)
            case hd2 => rfl
            case hfit2 => rw [HSL.out]; omega
            intro w4 hg4 hgr4
            rw [HFN.out] at hg4
            have hw4 := grown_trans hgr1 hgr4.out
            clear hgr4 HFN HSL hrow hrow1
            go_wp2
            go_roundw
            case rel => exact ⟨k + sp, by omega, by go_num, hg4, hw4⟩
            case measure => simp [intOf]; omega
    · have hkn : k = n := by omega
      subst hkn
      rw [row_full p cur0 k (by rw [HL.out]; exact Nat.le_refl _)] at hrow
      go_wp2
      go_ret
      exact ⟨rfl, hrow.out, hgr⟩

theorem zzRead_all (w : World) (cb cnt n : Nat) (r : Option Nat) (p : Pages) (h : Con w cb cnt (n : Int) r p) (hn : 0 < n) (hn2 : n ≤ 1000000) (gb : Nat) (hgb : gb ≠ cb) (cur0 : List Value) (hcl : cur0.length = n) (hcur : w.heap[gb]? = some (.cells cur0.toArray 5 (0, 0)))
    (hfr : ∀ i, (p.val i).ownBlock = none ∨ (p.val i).ownBlock ≠ some gb) :
    Calls Try.prog 23 #[.pointer (some ⟨cb, 0, none⟩), .slice (some ⟨gb, 0, none⟩) n n, .int .i64 0] w fun e w' =>
      e = .returned (.int .i64 n) ∧ Hid (w'.heap[gb]? = some (.cells (ints ((List.range n).map (rd p))).toArray 5 (0, 0))) ∧ w.grownBy w' (some gb) := by
  go_enter Try.func23, Try.ntmps23
  go_wp2_with fail
  refine (readAt_all w cb cnt n r p h hn hn2 gb hgb cur0 hcl hcur hfr).mono ?_
  rintro e w1 ⟨rfl, h1, h2⟩
  have H1 : Hid (w1.heap[gb]? = some (.cells (ints ((List.range n).map (rd p))).toArray 5 (0, 0))) := h1
  clear h1
  go_wp2
  go_ret
  exact ⟨rfl, H1, h2⟩

theorem zzRead_end (w : World) (cb cnt : Nat) (sz : Int) (r : Option Nat) (p : Pages) (hcon : Con w cb cnt sz r p) (v : Value) (off : Int) (ho : sz ≤ off) :
    Calls Try.prog 23 #[.pointer (some ⟨cb, 0, none⟩), v, .int .i64 off] w fun e w' => e = .returned (.int .i64 0) ∧ w' = w := by
  go_enter Try.func23, Try.ntmps23
  go_wp2_with fail
  refine (readAt_end w cb cnt sz r p hcon v off ho).mono ?_
  rintro e w1 ⟨rfl, rfl⟩
  go_wp2
  go_ret
  exact ⟨rfl, rfl⟩

theorem zzSize (w : World) (cb cnt : Nat) (sz : Int) (r : Option Nat) (p : Pages) (hcon : Con w cb cnt sz r p) :
    Calls Try.prog 22 #[.pointer (some ⟨cb, 0, none⟩)] w fun e w' => e = .returned (.int .i64 sz) ∧ w' = w := by
  have c0 := hcon.c0
  go_enter Try.func22, Try.ntmps22
  go_wp2
  go_ret
  exact ⟨rfl, rfl⟩

theorem zzPage (w : World) (cb cnt : Nat) (sz : Int) (r : Option Nat) (p : Pages) (hcon : Con w cb cnt sz r p) (i : Nat) (hi : i ≤ 1000000) :
    Calls Try.prog 24 #[.pointer (some ⟨cb, 0, none⟩), .int .i64 i] w fun e w' => e = .returned (.slice (p.pa i) (p.pg i).length (p.pc i)) ∧ w' = w := by
  go_enter Try.func24, Try.ntmps24
  go_wp2_with fail
  refine (page_call hcon i hi).mono ?_
  rintro e w1 ⟨rfl, rfl⟩
  go_wp2
  go_ret
  exact ⟨rfl, rfl⟩

/-- the new content. -/
def p0 : Pages := { pa := fun _ => none, pc := fun _ => 0, pg := fun _ => [] }

theorem con_new (w : World) (cnt : Nat) : Con (w.alloc (.cells #[.int .i64 0, .slice none 0 0, .map none] 61)) w.heap.size cnt 0 none p0 :=
  ⟨(MapKept.heap_alloc w _).1, .inl ⟨rfl, fun _ _ => rfl⟩, fun _ => World.ownsRow_nil _ _ _ _, fun _ _ _ => .inl rfl, fun _ => by simp [p0]⟩

theorem zzNew (w : World) : Calls Try.prog 20 #[] w fun e w' => e = .returned (.pointer (some ⟨w.heap.size, 0, none⟩)) ∧ w' = w.alloc (.cells #[.int .i64 0, .slice none 0 0, .map none] 61) := by
  go_enter Try.func20, Try.ntmps20
  go_wp2
  go_ret
  exact ⟨rfl, rfl⟩
end Go.Proofs.Qxb6003812a.ContentRead
