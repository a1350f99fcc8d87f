/-
  FnContentWriteReadMatchesFlatModel (4): the walk.
-/
import Derived.Test.Qxb6003812aContentAids
import Derived.Deep.QuietTactic
import Derived.BigQuiet
import Derived.Maps.RangeWalk
namespace Go.Proofs.Qxb6003812a.ContentLaw
open Go.RowKit Go.Proofs.Qxb6003812a.ContentPage Go.Proofs.Qxb6003812a.ContentSet Go.Proofs.Qxb6003812a.ContentPlain Go.Proofs.Qxb6003812a.ContentWrite Go.Proofs.Qxb6003812a.ContentRead Go.Proofs.Qxb6003812a.ContentAids

set_option maxHeartbeats 1000000 in
theorem early (a0 : Option Addr) (n0 c0 : Nat) (a1 : Option Addr) (n1 c1 : Nat) (off : Int) (w : World) (h0 : n0 ≤ 9223372036854775807) (h1 : n1 ≤ 9223372036854775807) (h : 65536 < n0 + n1 ∨ off < 0 ∨ 262144 < off) :
    Calls Try.prog 4 #[.slice a0 n0 c0, .slice a1 n1 c1, .int .i64 off] w fun e w' => e = .returned (.bool true) ∧ Below w.heap.size w w' := by
  by_cases hb : n0 + n1 ≤ 1048576
  · by_cases hb2 : n0 + n1 ≤ 65536
    · have h' : off < 0 ∨ 262144 < off := by omega
      clear h
      rcases h' with h | h
      · go_enter Try.func4, Try.ntmps4
        go_wp2_with fail
        refine (bytes_yes _ _ _ _ _ _ _ _ hb).mono ?_
        rintro e w1 ⟨rfl, rfl⟩
        go_wp2_with fail
        go_ret
        exact ⟨rfl, Below.refl _ _⟩
      · have h2 : ¬ off < 0 := by omega
        go_enter Try.func4, Try.ntmps4
        go_wp2_with fail
        refine (bytes_yes _ _ _ _ _ _ _ _ hb).mono ?_
        rintro e w1 ⟨rfl, rfl⟩
        go_wp2_with fail
        go_ret
        exact ⟨rfl, Below.refl _ _⟩
    · clear h
      go_enter Try.func4, Try.ntmps4
      go_wp2_with fail
      refine (bytes_yes _ _ _ _ _ _ _ _ hb).mono ?_
      rintro e w1 ⟨rfl, rfl⟩
      go_wp2_with fail
      go_ret
      exact ⟨rfl, Below.refl _ _⟩
  · clear h
    go_enter Try.func4, Try.ntmps4
    go_wp2_with fail
    refine (bytes_no _ _ _ _ _ _ _ _ h0 h1 (by omega)).mono ?_
    rintro e w1 ⟨rfl, rfl⟩
    go_wp2_with fail
    go_ret
    exact ⟨rfl, Below.refl _ _⟩

/-- the flat model. -/
def flat (S : Nat) (l0 : List Int) (o : Nat) (l1 : List Int) : List Int := splice (splice (List.replicate S 0) 0 l0) o l1

theorem own_src {w : World} {lo hi : Nat} {ao : Option Addr} {l : List Int} (h : Own w lo hi ao l) : 0 < (ints l).length → ∃ ad, ao = some ad ∧ ∀ j v, (ints l)[j]? = some v → w.cell? (ad.add j) = some v := by
  intro hl
  obtain ⟨b, rfl, _, _, hg⟩ := h (by simpa [ints] using hl)
  refine ⟨_, rfl, fun j v hj => ?_⟩
  have hadd : (⟨b, 0, none⟩ : Addr).add j = ⟨b, j, none⟩ := by unfold Addr.add; split <;> simp_all
  rw [hadd, cell_of_row w b j _ 5 (0, 0) hg]
  simpa using hj

theorem con_none {w w1 : World} {cb cnt : Nat} {sz : Int} {r : Option Nat} {p : Pages} (h : Con w cb cnt sz r p) (hg : w.grownBy w1 none) : Con w1 cb cnt sz r p := by
  refine ⟨?_, ?_, fun j => (h.row j).kept hg ?_, h.apart, h.len⟩
  · rw [hg.block cb h.lt (by simp)]
    exact h.blk
  · rcases h.mp with hn | ⟨mb, D, h1, h2, h3, h4⟩
    · exact .inl hn
    · exact .inr ⟨mb, D, h1, h2, h3.kept hg (by simp), h4⟩
  · cases (p.val j).ownBlock
    · exact .inl rfl
    · exact .inr (by simp)

theorem flat_rd {S n0 n1 o : Nat} {L0 L1 : List Int} {p7 p8 : Pages} (h0 : L0.length = n0) (h1 : L1.length = n1) (hS : S = max n0 (o + n1)) (w7 : Wr p0 0 L0 n0 p7) (w8 : Wr p7 o L1 n1 p8) :
    (flat S L0 o L1).length = S ∧ ∀ x, (flat S L0 o L1).getD x 0 = rd p8 x := by
  have hl : (splice (List.replicate S (0 : Int)) 0 L0).length = S := by rw [length_splice _ _ _ (by simp; omega)]; simp
  refine ⟨by unfold flat; rw [length_splice _ _ _ (by omega)]; exact hl, fun x => ?_⟩
  unfold flat
  rw [getD_splice _ _ _ _ (by omega), getD_splice _ _ _ _ (by simp; omega), w8.flat x, w7.flat x, h0, h1]
  have hz : (List.replicate S (0 : Int)).getD x 0 = 0 := by
    rw [List.getD_eq_getElem?_getD, List.getElem?_replicate]
    split <;> rfl
  have hr : rd p0 x = 0 := rfl
  rw [hz, hr]

/-- a cell of a row of bytes. -/
theorem int_cell {w : World} {b k n : Nat} {l : List Int} (h : w.heap[b]? = some (.cells (ints l).toArray 5 (0, 0))) (hl : l.length = n) (hk : k < n) : w.cell? ⟨b, k, none⟩ = some (.int .u8 (l.getD k 0)) := by
  rw [cell_of_row w b k _ 5 (0, 0) h]
  simp [ints, List.getD_eq_getElem?_getD, List.getElem?_eq_getElem (by omega : k < l.length)]

theorem range_getD (f : Nat → Int) (n k : Nat) (hk : k < n) : ((List.range n).map f).getD k 0 = f k := by
  simp [List.getD_eq_getElem?_getD, List.getElem?_range hk]

/-- an untouched page is empty. -/
theorem untouched {n0 n1 o : Nat} {L0 L1 : List Int} {p7 p8 : Pages} (w7 : Wr p0 0 L0 n0 p7) (w8 : Wr p7 o L1 n1 p8) (k : Nat) (h0 : ov k 0 n0 = false) (h1 : ov k o n1 = false) : (p8.pg k).length = 0 := by
  unfold ov at h0 h1
  rw [decide_eq_false_iff_not] at h0 h1
  rcases w8.only k with e | e
  · rw [e]
    rcases w7.only k with e | e
    · rw [e]; rfl
    · omega
  · omega

set_option maxHeartbeats 4000000 in
set_option maxRecDepth 100000 in
theorem main (a0 : Option Addr) (n0 c0 : Nat) (z0 : List Int) (a1 : Option Addr) (n1 c1 : Nat) (z1 : List Int) (o : Nat) (w : World) (w0 : IsRow .u8 w a0 n0 c0 z0) (w1 : IsRow .u8 w a1 n1 c1 z1) (h : n0 + n1 ≤ 65536) (ho : o ≤ 262144) :
    Calls Try.prog 4 #[.slice a0 n0 c0, .slice a1 n1 c1, .int .i64 o] w fun e w' => e = .returned (.bool true) ∧ Below w.heap.size w w' := by
  have W0 : Hid (IsRow .u8 w a0 n0 c0 z0) := w0
  have W1 : Hid (IsRow .u8 w a1 n1 c1 z1) := w1
  clear w0 w1
  go_enter Try.func4, Try.ntmps4
  go_wp2_with fail
  refine (bytes_yes _ _ _ _ _ _ _ _ (by omega)).mono ?_
  rintro e wx ⟨rfl, hwx⟩
  have hwx' := hwx.symm
  subst hwx'
  clear hwx
  go_wp2_with fail
  refine (clone_any a0 n0 c0 z0 w W0.out (by omega)).mono ?_
  rintro e w1 ⟨ao0, rfl, ow0, hl0, hb1⟩
  go_wp2_with fail
  have W2 : Hid (IsRow .u8 w1 a1 n1 c1 z1) := by
    rcases W1.out with hn | ⟨x, h1, h2, h3, h4, h5, h6⟩
    · exact .inl hn
    · refine .inr ⟨x, h1, h2, h3, h4, fun i hi => ?_, h6⟩
      have hc := h5 i hi
      have hlt := World.block_lt_of_cell? w _ hc
      rw [hb1.cell hlt]
      exact hc
  refine (clone_any a1 n1 c1 z1 w1 W2.out (by omega)).mono ?_
  rintro e w2 ⟨ao1, rfl, ow1, hl1, hb2⟩
  go_upto_if 43 with fail
  go_cut [7] from 15 to 47 (fun s7 wx => ∃ S : Nat, S = max n0 (o + n1) ∧ s7 = .int .i64 (S : Int) ∧ wx = w2)
  case first =>
    go_wp2
    all_goals
      go_meet
      case rel => exact ⟨max n0 (o + n1), rfl, by go_num, rfl⟩
  case rest =>
    obtain ⟨S, hS, rfl, hwc⟩ := hcut
    have hwc' := hwc.symm
    subst hwc'
    clear hwc
    have HS : Hid (S = max n0 (o + n1)) := hS
    have hS1 : n0 ≤ S := by omega
    have hS2 : o + n1 ≤ S := by omega
    have hS3 : S ≤ 400000 := by omega
    clear hS W0 W1 W2
    have hbB : Below w.heap.size w w2 := hb1.trans (hb2.mono hb1.size)
    have ow0' : Own w2 w.heap.size w2.heap.size ao0 (z0.take n0) := by
      have := ow0.kept hb2 (Nat.le_refl _)
      intro hl
      obtain ⟨b, e, h1, h2, h3⟩ := this hl
      exact ⟨b, e, h1, Nat.lt_of_lt_of_le h2 hb2.size, h3⟩
    have ow1' : Own w2 w.heap.size w2.heap.size ao1 (z1.take n1) := by
      intro hl
      obtain ⟨b, e, h1, h2, h3⟩ := ow1 hl
      exact ⟨b, e, Nat.le_trans hb1.size h1, h2, h3⟩
    have hsz0 : w.heap.size ≤ w2.heap.size := hbB.size
    clear hb1 hb2 ow0 ow1
    generalize hL0 : z0.take n0 = L0 at *
    generalize hL1 : z1.take n1 = L1 at *
    clear hL0 hL1
    have OW0 : Hid (Own w2 w.heap.size w2.heap.size ao0 L0) := ow0'
    have OW1 : Hid (Own w2 w.heap.size w2.heap.size ao1 L1) := ow1'
    clear ow0' ow1'
    obtain ⟨i0, ei, ez, e1, e2⟩ := info_parts info5
    go_wp2_with (first | (at_make; refine wpList_make_full _ rfl _ _ 39 rfl w.heap.size 5 i0 (.int .u8 0) 1 Try.underlying39 ei ez e1 .i64 .i64 _ _ S rfl rfl rfl rfl (by rw [e2]; omega) (by unfold maxLen; omega) (by omega) ?_; intro w3 hown3 hgr3) | (with_reducible refine BuiltinLaws.copy_at 5 Try.underlying39 ?hsz (some ⟨w2.heap.size, 0, none⟩) ao0 S S n0 n0 ?hd ?hs w2.heap.size 0 (ints (List.replicate S 0)) 5 ?hg (ints L0) ?hn ?hpos ?hfit (ints_one _) ?_))
    case hsz => kernel_rfl
    case hd => rfl
    case hs => rfl
    case hg =>
      rw [made_zeros] at hown3
      exact own_block hown3
    case hn => have := hl0.out; simp [ints]; show L0.length = min n0 S; omega
    case hpos =>
      intro hp
      obtain ⟨ad, h1, h2⟩ := own_src OW0.out hp
      exact ⟨ad, h1, fun j v hj => hgr3.cell (h2 j v hj) (by simp)⟩
    case hfit => have := hl0.out; simp [ints]; omega
    intro w4 hg4 hgr4
    have hb4 : Below w2.heap.size w2 w4 := ((Below.refl _ w2).grown hgr3 (Nat.le_refl _) (by simp)).grown hgr4.out hgr3.size (fun k hk => by simp at hk; omega)
    rw [← ints_splice] at hg4
    clear hown3 hgr3 hgr4
    have OW2 : Hid (Own w4 w.heap.size w2.heap.size ao1 L1) := OW1.out.kept hb4 (Nat.le_refl _)
    have hfl : (splice (List.replicate S 0) 0 L0).length = S := by have := hl0.out; rw [length_splice _ _ _ (by simp; omega)]; simp
    have HFL : Hid ((splice (List.replicate S 0) 0 L0).length = S) := hfl
    clear hfl
    have hoS : o ≤ S := by omega
    obtain ⟨dp, hdp⟩ : ∃ dp : Option Addr, dp = if S = o then some ⟨w2.heap.size, 0, none⟩ else some ⟨w2.heap.size, o, none⟩ := ⟨_, rfl⟩
    have HD : Hid (dp = if S = o then some ⟨w2.heap.size, 0, none⟩ else some ⟨w2.heap.size, o, none⟩) := hdp
    clear hdp
    go_upto_region 14 with fail
    go_frame
    go_cut [9] from 50 to 57 (fun s9 wx => s9 = undef ∧ Hid (wx.heap[w2.heap.size]? = some (.cells (ints (flat S L0 o L1)).toArray 5 (0, 0))) ∧ Below w2.heap.size w2 wx)
    case first =>
      by_cases hSo : S = o
      · go_wp2_with (with_reducible refine BuiltinLaws.copy_at 5 Try.underlying39 ?hsz2 (some ⟨w2.heap.size, 0, none⟩) ao1 0 0 n1 n1 ?hd2 ?hs2 w2.heap.size o (ints (splice (List.replicate S 0) 0 L0)) 5 hg4.out (ints L1) ?hn2 ?hpos2 ?hfit2 (ints_one _) ?_)
        case hsz2 => kernel_rfl
        case hd2 => rfl
        case hs2 => rfl
        case hn2 => have := hl1.out; rw [ints_length]; show L1.length = min n1 0; omega
        case hpos2 =>
          intro hp
          obtain ⟨ad, h1, h2⟩ := own_src OW2.out hp
          exact absurd hp (by rw [ints_length]; have := hl1.out; omega)
        case hfit2 => have h1 := hl1.out; have h2 := HFL.out; rw [ints_length, ints_length, h2]; omega
        intro w5 hg5 hgr5
        rw [← ints_splice] at hg5
        have hb5 : Below w2.heap.size w2 w5 := hb4.grown hgr5.out hb4.size (fun k hk => by simp at hk; omega)
        clear hgr5
        go_wp2
        go_meet
        case rel => exact ⟨rfl, hg5, hb5⟩
      · go_wp2_with (with_reducible refine BuiltinLaws.copy_at 5 Try.underlying39 ?hsz3 (some ⟨w2.heap.size, o, none⟩) ao1 (S - o) (S - o) n1 n1 ?hd3 ?hs3 w2.heap.size o (ints (splice (List.replicate S 0) 0 L0)) 5 hg4.out (ints L1) ?hn3 ?hpos3 ?hfit3 (ints_one _) ?_)
        case hsz3 => kernel_rfl
        case hd3 => rfl
        case hs3 => rfl
        case hn3 => have := hl1.out; simp [ints]; show L1.length = min n1 (S - o); omega
        case hpos3 =>
          intro hp
          obtain ⟨ad, h1, h2⟩ := own_src OW2.out hp
          exact ⟨ad, h1, h2⟩
        case hfit3 => have h1 := hl1.out; have h2 := HFL.out; rw [ints_length, ints_length, h2]; omega
        intro w5 hg5 hgr5
        rw [← ints_splice] at hg5
        have hb5 : Below w2.heap.size w2 w5 := hb4.grown hgr5.out hb4.size (fun k hk => by simp at hk; omega)
        clear hgr5
        go_wp2
        go_meet
        case rel => exact ⟨rfl, hg5, hb5⟩
    case rest =>
      obtain ⟨rfl, hg5, hb5⟩ := hcut
      clear hg4 hb4 OW2 HD HFL
      have hM : w2.heap.size < wc.heap.size := (Array.getElem?_eq_some_iff.1 hg5.out).1
      go_wp2_with fail
      refine (zzNew wc).mono ?_
      rintro e w6 ⟨rfl, hw6⟩
      have hc6 : Con w6 wc.heap.size 0 0 none p0 := by rw [hw6]; exact con_new _ _
      have hb6 : Below wc.heap.size wc w6 := by rw [hw6]; exact (Below.refl _ _).alloc (Nat.le_refl _) _
      clear hw6
      have OA : Hid (Own w6 w.heap.size wc.heap.size ao0 L0) := by
        have h1 := (OW0.out.kept hb5 (Nat.le_refl _)).kept hb6 (Nat.le_of_lt hM)
        intro hl
        obtain ⟨b, e, h2, h3, h4⟩ := h1 hl
        exact ⟨b, e, h2, by omega, h4⟩
      have OB : Hid (Own w6 w.heap.size wc.heap.size ao1 L1) := by
        have h1 := (OW1.out.kept hb5 (Nat.le_refl _)).kept hb6 (Nat.le_of_lt hM)
        intro hl
        obtain ⟨b, e, h2, h3, h4⟩ := h1 hl
        exact ⟨b, e, h2, by omega, h4⟩
      have hg6 : Hid (w6.heap[w2.heap.size]? = some (.cells (ints (flat S L0 o L1)).toArray 5 (0, 0))) := show _ = _ by rw [hb6.block _ hM]; exact hg5.out
      have hB6 : Below w.heap.size w w6 := hbB.trans ((hb5.mono hbB.size).trans (hb6.mono (by omega)))
      have hcbw : w.heap.size ≤ wc.heap.size := by omega
      clear OW0 OW1 hb5 hb6 hg5 hbB
      generalize wc.heap.size = cb at *
      generalize w2.heap.size = M at *
      go_wp2_with fail
      refine (write_any w6 cb 0 0 none p0 hc6 ao0 n0 L0 hl0.out w.heap.size OA.out 0 0 rfl (by omega) (by omega)).mono ?_
      rintro e w7 ⟨rfl, r7, p7, hc7, hw7, hb7⟩
      have OB7 : Hid (Own w7 w.heap.size cb ao1 L1) := OB.out.kept hb7 (Nat.le_refl _)
      have hg7 : Hid (w7.heap[M]? = some (.cells (ints (flat S L0 o L1)).toArray 5 (0, 0))) := show _ = _ by rw [hb7.block _ hM]; exact hg6.out
      have hB7 : Below w.heap.size w w7 := hB6.trans (hb7.mono hcbw)
      clear OA OB hg6 hB6 hb7 hc6
      go_wp2_with fail
      refine (write_any w7 cb (0 + n0) _ r7 p7 hc7 ao1 n1 L1 hl1.out w.heap.size OB7.out o o rfl (by omega) (by omega)).mono ?_
      rintro e w8 ⟨rfl, r8, p8, hc8, hw8, hb8⟩
      have hg8 : Hid (w8.heap[M]? = some (.cells (ints (flat S L0 o L1)).toArray 5 (0, 0))) := show _ = _ by rw [hb8.block _ hM]; exact hg7.out
      have hB8 : Below w.heap.size w w8 := hB7.trans (hb8.mono hcbw)
      have hsz8 : max (max 0 (((0 : Nat) : Int) + (n0 : Int))) ((o : Int) + (n1 : Int)) = (S : Int) := by have := HS.out; omega
      rw [hsz8] at hc8
      clear OB7 hg7 hB7 hb8 hc7 hsz8
      go_wp2_with fail
      refine (zzSize w8 cb _ _ r8 p8 hc8).mono ?_
      rintro e wx ⟨rfl, hwx⟩
      have hwx' := hwx.symm
      subst hwx'
      clear hwx
      have hgb : cb < w8.heap.size := hc8.lt
      go_wp2_with (at_make; refine wpList_make_full _ rfl _ _ 39 rfl w.heap.size 5 i0 (.int .u8 0) 1 Try.underlying39 ei ez e1 .i64 .i64 _ _ S rfl rfl rfl rfl (by rw [e2]; omega) (by unfold maxLen; omega) (by omega) ?_; intro w9 hown9 hgr9)
      rw [made_zeros] at hown9
      have hg9 := own_block hown9
      have hc9 := con_none hc8 hgr9
      have hfr : ∀ i, (p8.val i).ownBlock = none ∨ (p8.val i).ownBlock ≠ some w8.heap.size := fun i => row_lt (hc8.row i) (Nat.le_refl _)
      refine (read_any w9 cb _ S r8 p8 hc9 (by omega) w8.heap.size (by omega) (ints (List.replicate S 0)) (by simp [ints]) hg9 hfr).mono ?_
      rintro e w10 ⟨rfl, hg10, hgr10⟩
      have hMlt : M < w8.heap.size := (Array.getElem?_eq_some_iff.1 hg8.out).1
      have hm10 : Hid (w10.heap[M]? = some (.cells (ints (flat S L0 o L1)).toArray 5 (0, 0))) := show _ = _ by
        rw [hgr10.block M (Nat.lt_of_lt_of_le hMlt hgr9.size) (by simp; omega), hgr9.block M hMlt (by simp)]; exact hg8.out
      have hB10 : Below w.heap.size w w10 := (hB8.grown hgr9 hB8.size (by simp)).grown hgr10 (Nat.le_trans hB8.size hgr9.size) (fun k hk => by simp at hk; omega)
      have hc10 : Con w10 cb _ _ r8 p8 := con_other hc9 hgr10 (by omega) hg9 hfr
      obtain ⟨hfl, hfr2⟩ := flat_rd hl0.out hl1.out HS.out hw7 hw8
      have HFL : Hid ((flat S L0 o L1).length = S) := hfl
      have HFR : Hid (∀ x, (flat S L0 o L1).getD x 0 = rd p8 x) := hfr2
      clear hown9 hg9 hc9 hgr9 hgr10 hfr hg8 hB8 hc8 hfl hfr2
      generalize w8.heap.size = gb at *
      have hE : Hid (∀ k, k < S → w10.cell? ⟨gb, k, none⟩ = some (.int .u8 (rd p8 k)) ∧ w10.cell? ⟨M, k, none⟩ = some (.int .u8 (rd p8 k))) := fun k hk =>
        ⟨by rw [int_cell hg10.out (n := S) (by simp) hk, range_getD _ _ _ hk], by rw [int_cell hm10.out HFL.out hk, HFR.out]⟩
      clear hg10 hm10 HFL HFR
      go_wp2_with fail
      go_loopw [11] (fun d wr => ∃ k : Nat, k ≤ S ∧ d = .int .i64 k ∧ ∃ nq, wr = w10.drewN nq) (fun d _ => S - (intOf d).toNat)
      case atStart => exact ⟨0, Nat.zero_le _, rfl, 0, rfl⟩
      case round =>
        obtain ⟨k, hk, rfl, nq, rfl⟩ := hrel
        by_cases hlt : k < S
        · obtain ⟨cA, cB⟩ := hE.out k hlt
          have hlt2 : (k : Int) < (S : Int) := by omega
          generalize rd p8 k = v at *
          go_wp2_with fail
          go_quiet (fail)
          go_wp2
          go_roundw
          case rel => exact ⟨k + 1, by omega, by go_num, _, rfl⟩
          case measure => simp [intOf]; omega
        · have hB11 : Below w.heap.size w (w10.drewN nq) := below_drewN hB10 nq
          have hc11 : Con (w10.drewN nq) cb (0 + n0 + n1) (S : Int) r8 p8 := con_none hc10 ⟨rfl, rfl, rfl, Nat.le_refl _, fun _ _ _ => rfl⟩
          clear hE hB10 hc10
          generalize w10.drewN nq = w11 at *
          have hsz11 := hc11.lt
          go_wp2_with (at_make; refine wpList_make_full _ rfl _ _ 39 rfl w.heap.size 5 i0 (.int .u8 0) 1 Try.underlying39 ei ez e1 .i64 .i64 _ _ 1 rfl rfl rfl rfl (by rw [e2]; omega) (by unfold maxLen; omega) (by omega) ?_; intro w12 hown12 hgr12)
          have hc12 := con_none hc11 hgr12
          have hB12 : Below w.heap.size w w12 := hB11.grown hgr12 hB11.size (by simp)
          clear hc11 hB11 hown12 hgr12 hsz11
          refine (zzRead_end w12 cb _ _ r8 p8 hc12 _ _ (Int.le_refl _)).mono ?_
          rintro e wx ⟨rfl, hwx⟩
          have hwx' := hwx.symm
          subst hwx'
          clear hwx
          go_wp2_with fail
          go_loopw [13] (fun d wr => ∃ k : Nat, k ≤ 8 ∧ d = .int .i64 k ∧ wr = w12) (fun d _ => 8 - (intOf d).toNat)
          case atStart => exact ⟨0, Nat.zero_le _, rfl, rfl⟩
          case round =>
            obtain ⟨k, hk, rfl, hwr⟩ := hrel
            have hwr' := hwr.symm
            subst hwr'
            clear hwr
            by_cases hlt : k < 8
            · go_wp2_with fail
              refine (zzPage w12 cb _ _ r8 p8 hc12 k (by omega)).mono ?_
              rintro e wx ⟨rfl, hwx⟩
              have hwx' := hwx.symm
              subst hwx'
              clear hwx
              have hpl := hc12.len k
              have hun := untouched hw7 hw8 k
              have HU : Hid (ov k 0 n0 = false → ov k o n1 = false → (p8.pg k).length = 0) := hun
              clear hun
              go_wp2_with fail
              refine (overlaps k 0 n0 w12 (by omega) (by omega) (by omega) (by omega) (by omega) (by omega)).mono ?_
              rintro e wx ⟨rfl, hwx⟩
              have hwx' := hwx.symm
              subst hwx'
              clear hwx
              by_cases h0 : ov k 0 n0 = true
              · go_wp2_with fail
                go_roundw
                case rel => exact ⟨k + 1, by omega, by go_num, trivial⟩
                case measure => simp [intOf]; omega
              · have h0' : ov k 0 n0 = false := by simpa using h0
                clear h0
                go_wp2_with fail
                refine (overlaps k o n1 w12 (by omega) (by omega) (by omega) (by omega) (by omega) (by omega)).mono ?_
                rintro e wx ⟨rfl, hwx⟩
                have hwx' := hwx.symm
                subst hwx'
                clear hwx
                by_cases h1 : ov k o n1 = true
                · go_wp2_with fail
                  go_roundw
                  case rel => exact ⟨k + 1, by omega, by go_num, trivial⟩
                  case measure => simp [intOf]; omega
                · have h1' : ov k o n1 = false := by simpa using h1
                  have hz : (((p8.pg k).length : Int) != 0) = false := by rw [HU.out h0' h1']; rfl
                  clear h1
                  go_wp2_with fail
                  go_roundw
                  case rel => exact ⟨k + 1, by omega, by go_num, trivial⟩
                  case measure => simp [intOf]; omega
            · go_wp2
              go_ret
              exact ⟨rfl, hB12⟩

/-- the law, whatever comes in. -/
theorem law (a0 : Option Addr) (n0 c0 : Nat) (z0 : List Int) (a1 : Option Addr) (n1 c1 : Nat) (z1 : List Int) (off : Int) (w : World) (w0 : IsRow .u8 w a0 n0 c0 z0) (w1 : IsRow .u8 w a1 n1 c1 z1) :
    Calls Try.prog 4 #[.slice a0 n0 c0, .slice a1 n1 c1, .int .i64 off] w fun e w' => e = .returned (.bool true) ∧ Below w.heap.size w w' := by
  by_cases h : 65536 < n0 + n1 ∨ off < 0 ∨ 262144 < off
  · exact early a0 n0 c0 a1 n1 c1 off w w0.len w1.len h
  · obtain ⟨o, rfl⟩ := Int.eq_ofNat_of_zero_le (show 0 ≤ off by omega)
    exact main a0 n0 c0 z0 a1 n1 c1 z1 o w w0 w1 (by omega) (by omega)
end Go.Proofs.Qxb6003812a.ContentLaw
