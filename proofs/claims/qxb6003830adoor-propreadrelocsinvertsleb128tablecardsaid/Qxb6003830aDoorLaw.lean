/-
  PropReadRelocsInvertsLEB128Table (3): the walk.
-/
import Derived.Test.Qxb6003830aDoorCompare
namespace Go.Proofs.Qxb6003830aDoor.Law
open Go.RowKit Go.Proofs.Qxb6003830aDoor.Plain Go.Proofs.Qxb6003830aDoor.Uvarint Go.Proofs.Qxb6003830aDoor.Read Go.Proofs.Qxb6003830aDoor.Small Go.Proofs.Qxb6003830aDoor.Small2 Go.Proofs.Qxb6003830aDoor.Append Go.Proofs.Qxb6003830aDoor.Steps Go.Proofs.Qxb6003830aDoor.Base Go.Proofs.Qxb6003830aDoor.Tail
set_option linter.unusedVariables false

set_option maxRecDepth 1000000 in
theorem back_true {w w9 : World} (h : Below w.heap.size w w9) : Back w9 (bodyPost Tryd.prog Tryd.f3 fun e w' => e = .returned (.bool true) ∧ Below w.heap.size w w') := by
  unfold Back
  intros
  go_ret
  exact ⟨rfl, h.trans (Below.mono (by assumption) h.size)⟩

set_option maxHeartbeats 8000000 in
set_option maxRecDepth 100000 in
theorem main (a0 : Option Addr) (n0 c0 : Nat) (ps : List (Nat × Nat)) (a1 : Option Addr) (n1 c1 : Nat) (tl : List UInt8) (a2 : Option Addr) (n2 c2 : Nat) (js : List (Nat × Nat)) (sp : Nat) (ea : Addr) (w : World)
    (w0 : IsTab w a0 n0 c0 ps) (w1 : IsBytes w a1 n1 c1 tl) (w2 : IsTab w a2 n2 c2 js) (hg : w.cell? ⟨0, 0, none⟩ = some (.iface 61 (.pointer (some ea)))) (h0 : n0 ≤ 256) (h1 : n1 ≤ 1048576) (h2 : n2 ≤ 4096) (hsp : sp ≤ 64) :
    Calls Tryd.prog 3 #[.slice a0 n0 c0, .slice a1 n1 c1, .slice a2 n2 c2, .int .i64 sp] w fun e w' => e = .returned (.bool true) ∧ Below w.heap.size w w' := by
  have W0 : Hid (IsTab w a0 n0 c0 ps) := w0
  have W1 : Hid (IsBytes w a1 n1 c1 tl) := w1
  have W2 : Hid (IsTab w a2 n2 c2 js) := w2
  have HG : Hid (w.cell? ⟨0, 0, none⟩ = some (.iface 61 (.pointer (some ea)))) := hg
  clear w0 w1 w2 hg
  have q : ∀ (w : World) (a : Option Addr) (n c n' c' : Nat), (binOp .eql 22 (.slice a n c) (.slice none n' c')).run Tryd.prog w = .ok (.bool a.isNone) w := fun w a n c n' c' => Lib.run_eql_slice_nil w _ _ a n c n' c' Tryd.underlying22
  go_enter Tryd.func3, Tryd.ntmps3
  go_upto_region 4 with fail
  go_cut [48] from 43 to 47 (fun s wx => ∃ b : Bool, s = .bool b ∧ wx = w)
  case first =>
    by_cases hn : a2.isNone = true
    · by_cases hs : 0 < (sp : Int)
      · go_wp2_with fail
        go_meet
        case rel => exact ⟨_, rfl, rfl⟩
      · go_wp2_with fail
        go_meet
        case rel => exact ⟨_, rfl, rfl⟩
    · have hn2 : a2.isNone = false := by cases hx : a2.isNone <;> simp_all
      clear hn
      go_wp2_with fail
      go_meet
      case rel => exact ⟨_, rfl, rfl⟩
  case rest =>
    obtain ⟨b, rfl, hwc⟩ := hcut
    have hwc' := hwc.symm
    subst hwc'
    clear hwc q
    go_upto_if 48 with fail
    go_cut [9] from 10 to 73 (fun s9 wx => ∃ k xs, Hid (wx.ownsRow w.heap.size 27 2 s9 k xs) ∧ Hid (Below w.heap.size w wx))
    case first =>
      cases b
      · go_wp2_with fail
        go_meet
        case rel => exact ⟨0, [], show World.ownsRow _ _ _ _ _ _ _ from ⟨rfl, .inl ⟨rfl, rfl⟩⟩, Below.refl _ _⟩
      · obtain ⟨i0, hi, hz0, hz1, hz2⟩ := info_parts info27
        go_wp2_with (first | (at_make; refine wpList_make_own _ rfl _ _ 24 rfl w.heap.size 27 i0 (.agg #[.int .u64 0, .int .u64 0]) 2 Tryd.underlying24 hi hz0 hz1 .i64 .i64 _ (n2 + sp) rfl rfl (by omega) (by rw [hz2]; omega) (by unfold maxLen; omega) (Nat.le_refl _) ?_; intro w3 hown3 hgr3))
        have HO3 : Hid (w3.ownsRow w.heap.size 27 2 (.slice (some ⟨w.heap.size, 0, none⟩) 0 (n2 + sp)) 0 []) := hown3
        have HB3 : Hid (Below w.heap.size w w3) := (Below.refl _ w).grown hgr3 (Nat.le_refl _) (by simp)
        clear hown3 hgr3
        go_loopw [9, 56] (fun d9 d56 wr => ∃ (k : Nat) (xs : List Value), k ≤ n2 ∧ d56 = .int .i64 k ∧ Hid (wr.ownsRow w.heap.size 27 2 d9 k xs) ∧ Hid (Below w.heap.size w wr)) (fun _ d _ => n2 - (intOf d).toNat)
        case atStart => exact ⟨0, [], by omega, rfl, HO3, HB3⟩
        case round =>
          obtain ⟨k, xs, hk, rfl, hO, hB⟩ := hrel
          by_cases hlt : k < n2
          · have hlt2 : (k : Int) < (n2 : Int) := by omega
            rcases (W2.out.kept hB.out) with ⟨_, hz, _⟩ | ⟨x, rfl, _, _, _, hcell, _⟩
            · omega
            obtain ⟨c1, c2⟩ := hcell k hlt
            generalize ((js.getD k (0, 0)).1 : Nat) = u at *
            generalize ((js.getD k (0, 0)).2 : Nat) = v at *
            clear hcell
            go_upto_region 9 with fail
            have c2' : wr.cell? ⟨(x.add (k * 2)).block, (x.add (k * 2)).off + 1, none⟩ = some (.int .u64 (v : Int)) := by rw [← at1, Addr.add_add]; exact c2
            go_region_law (first | (refine step_make rfl 64 69 rfl u v (by simp [Act.eval]) (by simp [Act.eval]) ?_) | (refine step_append rfl (.tmp 59) (.tmp 71) 24 rfl w.heap.size 27 i0 (.agg #[.int .u64 0, .int .u64 0]) 2 16 Tryd.underlying24 hi hz0 hz1 hz2 rfl (by decide) _ k xs (by simp [Act.eval]) ((hO.out.drew.alloc _).alloc _) ⟨wr.heap.size + 1, 0, none⟩ 1 1 [.int .u64 u, .int .u64 v] (by simp [Act.eval]) rfl (Base.cell_two_new (by simp)) two_one (by unfold maxLen; omega) (by omega) (by have := hB.out.size; simp; omega) ?_; intro v9 w9 hown9 hgr9))
            all_goals
              have hsz := hB.out.size
              have HO9 : Hid (w9.ownsRow w.heap.size 27 2 v9 (k + 1) (xs ++ [.int .u64 u, .int .u64 v])) := hown9
              have HB9 : Hid (Below w.heap.size w w9) := ((hB.out.drew.alloc (by simpa using hsz) _).alloc (by simp; omega) _).grown hgr9 (by simp; omega) (fun g hg => (hO.out.lt g hg).1)
              clear hown9 hgr9 c1 c2 c2' hO hB hsz
              go_wp2_with fail
              go_roundw
              case rel => exact ⟨k + 1, _, by omega, by go_num, HO9, HB9⟩
              case measure => simp [intOf]; omega
          · go_wp2_with fail
            go_meet
            case rel => exact ⟨k, xs, hO, hB⟩
    case rest =>
      obtain ⟨sk, sxs, hSO, hSB⟩ := hcut
      obtain ⟨ws, hws⟩ : ∃ x, x = wc := ⟨_, rfl⟩
      subst hws
      have hsz0 : w.heap.size ≤ ws.heap.size := hSB.out.size
      have hl0 : ps.length = n0 := W0.out.length
      have HL0 : Hid (ps.length = n0) := hl0
      clear hl0
      go_wp2_with fail
      refine (appendUvarint ws.heap.size 0 n0 (by omega) (.slice none 0 0) [] ws ⟨rfl, .inl ⟨rfl, rfl⟩⟩ (Nat.le_refl _) (by omega)).mono ?_
      rintro e w3 ⟨ev, rfl, hown3, hb3⟩
      have HO3 : Hid (w3.ownsRow ws.heap.size 5 1 ev (Lib.uvarint n0).length (Lib.byteCells (Lib.uvarint n0))) := show World.ownsRow _ _ _ _ _ _ _ by simpa using hown3
      have HB3 : Hid (Below ws.heap.size ws w3) := hb3
      have hlen0 : (Lib.uvarint n0).length ≤ 10 := Lib.uvarint_length64 (by omega)
      clear hown3 hb3
      go_wp2_with fail
      go_loopw [11, 81] (fun d11 d81 wr => ∃ (k : Nat) (l : List UInt8), k ≤ n0 ∧ d81 = .int .i64 k ∧ l.length ≤ 10 + 20 * k ∧ Hid (l = Lib.uvarint n0 ++ encP (ps.take k)) ∧ Hid (wr.ownsRow ws.heap.size 5 1 d11 l.length (Lib.byteCells l)) ∧ Hid (Below ws.heap.size ws wr)) (fun _ d _ => n0 - (intOf d).toNat)
      case atStart => exact ⟨0, Lib.uvarint n0, by omega, rfl, by omega, show _ = _ by simp [encP], HO3, HB3⟩
      case round =>
        obtain ⟨k, l, hk, rfl, hll, hl, hO, hB⟩ := hrel
        by_cases hlt : k < n0
        · have hlt2 : (k : Int) < (n0 : Int) := by omega
          rcases IsTab.kept (IsTab.kept W0.out hSB.out) hB.out with ⟨_, hz, _⟩ | ⟨x, rfl, _, _, _, hcell, hwf⟩
          · omega
          obtain ⟨c1, _⟩ := hcell k hlt
          have hq := hwf (ps.getD k (0, 0)) (getD_mem (by rw [HL0.out]; exact hlt))
          obtain ⟨u, hu⟩ : ∃ u, u = (ps.getD k (0, 0)).1 := ⟨_, rfl⟩
          obtain ⟨v, hv⟩ : ∃ v, v = (ps.getD k (0, 0)).2 := ⟨_, rfl⟩
          rw [← hu] at c1
          rw [← hu, ← hv] at hq
          have HQ : Hid (u < 18446744073709551616 ∧ v < 18446744073709551616) := hq
          have HU : Hid (u = (ps.getD k (0, 0)).1) := hu
          have HV : Hid (v = (ps.getD k (0, 0)).2) := hv
          have hlu : (Lib.uvarint u).length ≤ 10 := Lib.uvarint_length64 hq.1
          have hlv : (Lib.uvarint v).length ≤ 10 := Lib.uvarint_length64 hq.2
          have HC2 : Hid (∀ w4 : World, Below ws.heap.size ws w4 → w4.cell? ⟨(x.add (k * 2)).block, (x.add (k * 2)).off + 1, none⟩ = some (.int .u64 (v : Nat))) := show ∀ w4 : World, _ from fun w4 hb4 => by
            rcases IsTab.kept (IsTab.kept W0.out hSB.out) hb4 with ⟨e, _⟩ | ⟨x', e, _, _, _, hcell, _⟩
            · cases e
            · obtain rfl := Option.some.inj e
              rw [← at1, Addr.add_add, hv]
              exact (hcell k hlt).2
          have HLX : Hid (l ++ Lib.uvarint u ++ Lib.uvarint v = Lib.uvarint n0 ++ encP (ps.take (k + 1))) := show _ = _ by
            rw [hl.out, encP_take (by rw [HL0.out]; exact hlt), ← hu, ← hv, List.append_assoc, List.append_assoc]
          clear hcell hwf hq hu hv hl
          go_wp2_with fail
          refine (appendUvarint ws.heap.size l.length u HQ.out.1 u11 (Lib.byteCells l) wr hO.out hB.out.size (by omega)).mono ?_
          rintro e w4 ⟨v4, rfl, hown4, hb4⟩
          have HB4 : Hid (Below ws.heap.size ws w4) := hB.out.trans hb4
          have HO4 : Hid (w4.ownsRow ws.heap.size 5 1 v4 (l.length + (Lib.uvarint u).length) (Lib.byteCells l ++ Lib.byteCells (Lib.uvarint u))) := hown4
          clear hown4 hb4 c1 hO hB
          have c2' := HC2.out w4 HB4.out
          go_wp2_with fail
          refine (appendUvarint ws.heap.size (l.length + (Lib.uvarint u).length) v HQ.out.2 v4 _ w4 HO4.out HB4.out.size (by omega)).mono ?_
          rintro e w5 ⟨v5, rfl, hown5, hb5⟩
          have HB5 : Hid (Below ws.heap.size ws w5) := HB4.out.trans hb5
          have HO5 : Hid (w5.ownsRow ws.heap.size 5 1 v5 (l ++ Lib.uvarint u ++ Lib.uvarint v).length (Lib.byteCells (l ++ Lib.uvarint u ++ Lib.uvarint v))) := by
            rw [List.length_append, List.length_append, Lib.byteCells_append, Lib.byteCells_append]
            exact hown5
          have hll2 : (l ++ Lib.uvarint u ++ Lib.uvarint v).length ≤ 10 + 20 * (k + 1) := by rw [List.length_append, List.length_append]; omega
          clear hown5 hb5 HO4 HB4 c2' HC2 hlu hlv
          generalize l ++ Lib.uvarint u ++ Lib.uvarint v = l5 at *
          go_wp2_with fail
          go_roundw
          case rel => exact ⟨k + 1, l5, by omega, by go_num, hll2, HLX, HO5, HB5⟩
          case measure => simp [intOf]; omega
        · obtain rfl : k = n0 := by omega
          have HLT : Hid (l = encT ps) := show _ = _ by
            rw [hl.out, List.take_of_length_le (by rw [HL0.out]; exact Nat.le_refl _)]
            unfold encT
            rw [HL0.out]
          have hpos : 0 < l.length := by
            have hp := Lib.uvarint_pos k
            have := hl.out
            rw [this, List.length_append]
            omega
          rcases hO.out.2 with ⟨_, hz⟩ | ⟨ge, cape, cure, rfl, he1, he2, he3, he4, he5, he6⟩
          · omega
          have hge : ge < wr.heap.size := (Array.getElem?_eq_some_iff.1 he2).1
          clear he2 he5 he6 hl
          unfold maxLen at he4
          obtain ⟨i0, hi, hz0, hz1, hz2⟩ := info_parts info5
          go_upto_region 20 with (first | (at_make; refine wpList_make_own _ rfl _ _ 23 rfl wr.heap.size 5 i0 (.int .u8 0) 1 Tryd.underlying23 hi hz0 hz1 .i64 .i64 _ (l.length + n1) rfl rfl (by omega) (by rw [hz2]; omega) (by unfold maxLen; omega) (Nat.le_refl _) ?_; intro w6 hown6 hgr6) | fail)
          have HO6 : Hid (w6.ownsRow wr.heap.size 5 1 (.slice (some ⟨wr.heap.size, 0, none⟩) 0 (l.length + n1)) 0 []) := hown6
          have HB6 : Hid (Below wr.heap.size wr w6) := (Below.refl _ wr).grown hgr6 (Nat.le_refl _) (by simp)
          have HOe : Hid (w6.ownsRow ws.heap.size 5 1 (.slice (some ⟨ge, 0, none⟩) l.length cape) l.length (Lib.byteCells l)) := hO.out.kept hgr6 (.inr (by simp [Value.ownBlock]))
          clear hown6 hgr6
          have HT6 : Hid (IsBytes w6 a1 n1 c1 tl) := IsBytes.kept (IsBytes.kept (IsBytes.kept W1.out hSB.out) hB.out) HB6.out
          go_upto_region 21 with (first | (at_builtin; refine wpList_append_fits_any _ rfl _ _ 23 rfl wr.heap.size 5 i0 1 Tryd.underlying23 hi hz1 wr.heap.size 0 (l.length + n1) [] rfl HO6.out (some ⟨ge, 0, none⟩) l.length cape (Lib.byteCells l) rfl ?d1 ?d2 ?d3 (Lib.byteCells_one l) ?d4 ?_))
          case d1 => rw [Lib.byteCells_length]; omega
          case d2 => intro e; cases e
          case d3 =>
            intro ad e
            obtain rfl := Option.some.inj e
            exact HOe.out.cells rfl
          case d4 => omega
          intro w7 hown7 hgr7
          have hgn : ge ≠ wr.heap.size := by omega
          have HO7 : Hid (w7.ownsRow wr.heap.size 5 1 (.slice (some ⟨wr.heap.size, 0, none⟩) l.length (l.length + n1)) l.length (Lib.byteCells l)) := show World.ownsRow _ _ _ _ _ _ _ by simpa using hown7
          have HB7 : Hid (Below wr.heap.size wr w7) := HB6.out.grown hgr7 HB6.out.size (fun g hg => by simp at hg; omega)
          have HOe7 : Hid (w7.ownsRow ws.heap.size 5 1 (.slice (some ⟨ge, 0, none⟩) l.length cape) l.length (Lib.byteCells l)) := HOe.out.kept hgr7 (.inr (by simp [Value.ownBlock]; exact hgn))
          have HT7 : Hid (IsBytes w7 a1 n1 c1 tl) := IsBytes.kept (IsBytes.kept (IsBytes.kept W1.out hSB.out) hB.out) HB7.out
          have htl : tl.length = n1 := HT7.out.length
          have HTL : Hid (tl.length = n1) := htl
          clear hown7 hgr7 HO6 HB6 HOe HT6 htl
          go_upto_region 22 with (first | (at_builtin; refine wpList_append_fits_any _ rfl _ _ 23 rfl wr.heap.size 5 i0 1 Tryd.underlying23 hi hz1 wr.heap.size l.length (l.length + n1) (Lib.byteCells l) rfl HO7.out a1 n1 c1 (Lib.byteCells tl) rfl ?f1 ?f2 ?f3 (Lib.byteCells_one tl) ?f4 ?_))
          case f1 => rw [Lib.byteCells_length, HTL.out]; omega
          case f2 => exact HT7.out.none
          case f3 => exact HT7.out.cells
          case f4 => omega
          intro w8 hown8 hgr8
          have HB8 : Hid (Below wr.heap.size wr w8) := HB7.out.grown hgr8 HB7.out.size (fun g hg => by simp at hg; omega)
          have HOe8 : Hid (w8.ownsRow ws.heap.size 5 1 (.slice (some ⟨ge, 0, none⟩) l.length cape) l.length (Lib.byteCells l)) := HOe7.out.kept hgr8 (.inr (by simp [Value.ownBlock]; exact hgn))
          have hszr : ws.heap.size ≤ wr.heap.size := hB.out.size
          have HBs8 : Hid (Below ws.heap.size ws w8) := hB.out.trans (HB8.out.mono hszr)
          have HBw8 : Hid (Below w.heap.size w w8) := hSB.out.trans (HBs8.out.mono hsz0)
          have hF8 : wr.heap.size < w8.heap.size := (hown8.lt wr.heap.size rfl).2
          have HS8 : Hid (w8.ownsRow w.heap.size 27 2 u9 sk sxs) := own_below hSO.out HBs8.out
          have HSb : Hid (∀ g, u9.ownBlock = some g → w.heap.size ≤ g ∧ g < ws.heap.size) := show ∀ g, _ from fun g hg => hSO.out.lt g hg
          have HF : Hid (BS w8 (fun g => g < w8.heap.size ∧ some g ≠ u9.ownBlock) (.slice (some ⟨wr.heap.size, 0, none⟩) (l.length + n1) (l.length + n1)) (l ++ tl)) := bs_own hown8 (by rw [Lib.byteCells_append]) (by rw [List.length_append, HTL.out]) (by omega) ⟨hF8, fun e => by have := (HSb.out _ e.symm).2; omega⟩
          have HG8 : Hid (w8.cell? ⟨0, 0, none⟩ = some (.iface 61 (.pointer (some ea)))) := show _ = _ by
            rw [HBw8.out.cell (World.block_lt_of_cell? w _ HG.out)]
            exact HG.out
          have HR : Hid (rdTab (l ++ tl) = some (ps, tl)) := show _ = _ by
            rw [HLT.out]
            exact rdTab_enc ps tl (by rw [HL0.out]; omega) W0.out.small
          have HRc : Hid (∀ c r, rd1 (l ++ tl) = some (c, r) → c ≤ 256) := show ∀ c r, _ from fun c r hc => by
            rw [HLT.out] at hc
            unfold encT at hc
            rw [List.append_assoc, rd1_enc _ (by rw [HL0.out]; omega)] at hc
            simp only [Option.some.injEq, Prod.mk.injEq] at hc
            rw [← hc.1, HL0.out]
            exact h0
          have hpos0 : 0 < w.heap.size := Nat.lt_of_le_of_lt (Nat.zero_le _) (World.block_lt_of_cell? w _ HG.out)
          clear hown8 hgr8 HO7 HB7 HOe7 HT7
          go_wp2_with fail
          refine (zzRead w.heap.size sk u9 _ sxs ea (l ++ tl) w8 HS8.out HBw8.out.size HG8.out (fun e => by have := (HSb.out 0 e.symm).1; omega) HF.out HRc.out).mono ?_
          rintro e w9 ⟨hgr9, hor⟩
          rcases hor with ⟨hno, _⟩ | ⟨ps', r', rv, vd, hps, rfl, hown9, hblk9, hbs9⟩
          · have hR := HR.out
            rw [hno] at hR
            cases hR
          obtain ⟨rfl, rfl⟩ : ps = ps' ∧ tl = r' := by
            have hR := HR.out
            rw [hps] at hR
            obtain ⟨e1, e2⟩ := Prod.mk.inj (Option.some.inj hR)
            exact ⟨e1.symm, e2.symm⟩
          rw [HL0.out] at hown9
          obtain ⟨ar, cr, rfl, hrv⟩ := own_slice hown9
          have HOe9 : Hid (w9.ownsRow ws.heap.size 5 1 (.slice (some ⟨ge, 0, none⟩) l.length cape) l.length (Lib.byteCells l)) := HOe8.out.kept hgr9 (.inr fun e => by have := (HSb.out ge e.symm).2; omega)
          have HB9 : Hid (Below w.heap.size w w9) := HBw8.out.grown hgr9 HBw8.out.size (fun g hg => (HSb.out g hg).1)
          have HS9 : Hid (BS w9 (fun g => g < w8.heap.size ∧ some g ≠ u9.ownBlock) vd tl) := hbs9
          have HRV : Hid (∀ j, j < k → ∃ g, ar = some ⟨g, 0, none⟩ ∧ g < w9.heap.size ∧ w9.cell? ⟨g, j * 2, none⟩ = some (.int .u64 ((ps.getD j (0, 0)).1 : Nat)) ∧ w9.cell? ⟨g, j * 2 + 1, none⟩ = some (.int .u64 ((ps.getD j (0, 0)).2 : Nat))) := show ∀ j, _ from fun j hj => by
            obtain ⟨g, hg1, hg2, hg3⟩ := hrv (by omega)
            obtain ⟨p1, p2⟩ := pc_at (ps := ps) (j := j) (by rw [HL0.out]; exact hj)
            exact ⟨g, hg1, hg2, hg3 _ _ p1, hg3 _ _ p2⟩
          have hsz9 : w8.heap.size ≤ w9.heap.size := hgr9.size
          clear hgr9 hblk9 hbs9 hown9 hrv hps HOe8 HS8 HF HG8 HR HRc HBs8 HBw8 HB8 hB hO
          have hkk : ((k : Int) == (k : Int)) = true := by simp
          go_upto_if 126 with fail
          rename_i K hK
          have HK : Hid (∀ a w', Code.wp Tryd.prog (code 12) (bodyPost Tryd.prog Tryd.f3 fun e w' => e = .returned (.bool true) ∧ Below w.heap.size w w') a w' → K a w') := hK
          clear hK
          go_wp2_with fail
          refine HK.out _ _ ?_
          have HG9 : Hid (w9.cell? ⟨0, 0, none⟩ = some (.iface 61 (.pointer (some ea)))) := show _ = _ by
            rw [HB9.out.cell (World.block_lt_of_cell? w _ HG.out)]
            exact HG.out
          exact compare ws.heap.size ge cape l ps ea w9 _ a1 n1 c1 tl vd a0 k c0 ar cr _ _ _ _ _ _ _ _ _ _ _ _ _ _ _ _ _ _ _ _ _ _ _ _ _ _ _ _ _ _ _ _ _ _ _ _ _ _ _ _ _ _ _ _ _ _ _ _ _ _ _ _ _ _ _ _ _ _ _ _ _ _ _ _ _ _ _ _ _ _ _ _ _ _ _ _ _ _ _ _ _ _ _ _ _ _ _ _ _ _ _ _ _ _ _ _ _ _ _ _ _ _ _ _ _ _ _ _ _ _ _ _ _ _ _ _ _ _ _ _ _ _ _ _ _ _ _ _ _ _ _ _ _ _ _ _ _ _ _ _ _ _ _ _ _ _ _ _ _ _ _ _ _ _ _ _ _ _ _ _ _ _ _ _ _ _ _ _ _ _ _ _ _ _ _ HLT.out (by rw [HL0.out]; exact h0) W0.out.small HOe9.out (by omega) HG9.out (HOe9.out.lt ge rfl).2 he3 HS9.out (fun g hg => Nat.lt_of_lt_of_le hg.1 hsz9) (W1.out.kept HB9.out) h1 (W0.out.kept HB9.out) h0 HRV.out (back_true HB9.out)
end Go.Proofs.Qxb6003830aDoor.Law
