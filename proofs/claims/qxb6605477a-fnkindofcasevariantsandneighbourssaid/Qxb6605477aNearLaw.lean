/-
  FnKindOfCaseVariantsAndNeighbours (4): the walk.
-/
import Derived.Test.Qxb6605477aKindAids
namespace Go.Proofs.Qxb6605477a.NearLaw
open Go.RowKit Go.Proofs.Qxb6605477a.KindPlain Go.Proofs.Qxb6605477a.KindWalks Go.Proofs.Qxb6605477a.KindAids
set_option linter.unusedVariables false

set_option maxHeartbeats 1000000 in
theorem out (i f p c : Int) (w : World) (h : i < 0 ∨ 12 ≤ i) :
    Calls Try.prog 4 #[.int .i64 i, .int .u32 f, .int .i64 p, .int .u8 c] w fun e w' => e = .returned (.bool true) ∧ Below w.heap.size w w' := by
  by_cases h1 : i < 0
  · clear h
    go_enter Try.func4, Try.ntmps4
    go_wp2_with fail
    go_ret
    exact ⟨rfl, Below.refl _ _⟩
  · have h2 : 12 ≤ i := by omega
    clear h
    go_enter Try.func4, Try.ntmps4
    go_wp2_with fail
    go_ret
    exact ⟨rfl, Below.refl _ _⟩

/-- the name under way: its first k bytes are told. -/
def Upto (s : ByteArray) (l : List Int) (k : Nat) : Prop := l.length = s.size ∧ ∀ j, j < k → Fits (l.getD j 0) (bAt s j)
theorem Upto.next {s : ByteArray} {l : List Int} {k : Nat} (h : Upto s l k) (hk : k < s.size) {v : Int} (hv : Fits v (bAt s k)) : Upto s (l.set k v) (k + 1) := by
  refine ⟨by rw [List.length_set]; exact h.1, fun j hj => ?_⟩
  by_cases e : j = k
  · subst e
    rw [List.getD_eq_getElem?_getD, List.getElem?_set_self (by rw [h.1]; exact hk), Option.getD_some]
    exact hv
  · rw [List.getD_eq_getElem?_getD, List.getElem?_set_ne (fun e2 => e e2.symm), ← List.getD_eq_getElem?_getD]
    exact h.2 j (by omega)

set_option maxHeartbeats 4000000 in
set_option maxRecDepth 100000 in
theorem main (i : Nat) (f p c : Int) (w : World) (hi : i < 12) :
    Calls Try.prog 4 #[.int .i64 i, .int .u32 f, .int .i64 p, .int .u8 c] w fun e w' => e = .returned (.bool true) ∧ Below w.heap.size w w' := by
  obtain ⟨i0, ei, ez, e1, e2⟩ := info_parts info5
  go_enter Try.func4, Try.ntmps4
  go_wp2_with fail
  refine (known_named i hi w).mono ?_
  rintro e wx ⟨s, ki, rfl, hs, hk, hs1, hs2, hk0, hk7, hwx⟩
  have hwx' := hwx.symm
  subst hwx'
  clear hwx
  go_wp2_with (first | (at_make; refine wpList_make_full _ rfl _ _ 22 rfl w.heap.size 5 i0 (.int .u8 0) 1 Try.underlying22 ei ez e1 .i64 .i64 _ _ s.size rfl rfl rfl rfl (by rw [e2]; omega) (by unfold maxLen; omega) (Nat.le_refl _) ?_; intro w1 hown1 hgr1))
  have hc1 : Hid (Cells w1 w.heap.size (List.replicate s.size 0)) := Cells.made hown1
  have hb1 : Below w.heap.size w w1 := (Below.refl _ w).grown hgr1 (Nat.le_refl _) (by simp)
  have hs1' : w.heap.size < w1.heap.size := by
    rw [made_zeros] at hown1
    exact (Array.getElem?_eq_some_iff.1 (own_block hown1)).1
  clear hown1 hgr1
  go_loopw [12] (fun d wr => ∃ (k : Nat) (l : List Int), k ≤ s.size ∧ d = .int .i64 k ∧ Hid (Upto s l k) ∧ Hid (Cells wr w.heap.size l) ∧ w.heap.size < wr.heap.size ∧ Hid (Below w.heap.size w wr)) (fun d _ => s.size - (intOf d).toNat)
  case atStart => exact ⟨0, List.replicate s.size 0, Nat.zero_le _, rfl, (⟨by simp, fun j hj => absurd hj (by omega)⟩ : Upto _ _ _), hc1, hs1', hb1⟩
  case round =>
    obtain ⟨k, l, hks, rfl, hu, hc, hsz, hb⟩ := hrel
    by_cases hlt : k < s.size
    · have hlt2 : (k : Int) < (s.size : Int) := by omega
      have hll : k < l.length := by have := hu.out.1; omega
      have hdst := hc.out.cell k hll
      have hfr := hc.out.free k
      have hbk := bAt_lt hlt
      generalize l.getD k 0 = old at *
      have HS : Hid (∀ v, Cells (wr.setCell ⟨w.heap.size, k, none⟩ (.int .u8 v)) w.heap.size (l.set k v)) := show ∀ v, _ from fun v => hc.out.store k v hll
      have HU : Hid (∀ v, Fits v (bAt s k) → Upto s (l.set k v) (k + 1)) := show ∀ v, _ from fun v hv => hu.out.next hlt hv
      have HB : Hid (∀ v, Below w.heap.size w (wr.setCell ⟨w.heap.size, k, none⟩ (.int .u8 v))) := show ∀ v, _ from fun v => hb.out.setCell (Nat.le_refl _) _
      have h255 := bAt_le s k
      have HK : Hid (((s[k].toNat : Nat) : Int) = bAt s k) := hbk
      clear hbk hll hc hu hb h255
      by_cases h97 : 97 ≤ ((s[k].toNat : Nat) : Int)
      · by_cases h122 : ((s[k].toNat : Nat) : Int) ≤ 122
        · have hm : Fits (((s[k].toNat : Nat) : Int) - 32) (bAt s k) := .inr ⟨by rw [← HK.out]; exact h97, by rw [← HK.out]; exact h122, by rw [HK.out]⟩
          have HM : Hid (Fits (((s[k].toNat : Nat) : Int) - 32) (bAt s k)) := hm
          clear hm
          go_wp2_with fail
          · go_roundw
            case rel => exact ⟨k + 1, _, by omega, by go_num, HU.out _ HM.out, HS.out _, by rw [World.size_setCell]; exact hsz, HB.out _⟩
            case measure => simp [intOf]; omega
          · go_roundw
            case rel => exact ⟨k + 1, _, by omega, by go_num, HU.out _ (.inl HK.out), HS.out _, by rw [World.size_setCell]; exact hsz, HB.out _⟩
            case measure => simp [intOf]; omega
        · go_wp2_with fail
          go_roundw
          case rel => exact ⟨k + 1, _, by omega, by go_num, HU.out _ (.inl HK.out), HS.out _, by rw [World.size_setCell]; exact hsz, HB.out _⟩
          case measure => simp [intOf]; omega
      · go_wp2_with fail
        go_roundw
        case rel => exact ⟨k + 1, _, by omega, by go_num, HU.out _ (.inl HK.out), HS.out _, by rw [World.size_setCell]; exact hsz, HB.out _⟩
        case measure => simp [intOf]; omega
    · obtain rfl : k = s.size := by omega
      have hsp : Spells l (nm i) := by
        refine (spells_fits hi).2 ?_
        rw [← hs.out]
        exact hu.out
      have hlen : l.length = s.size := hu.out.1
      have HSP : Hid (Spells l (nm i)) := hsp
      have HL : Hid (l.length = s.size) := hlen
      have hSl : Sl wr (some ⟨w.heap.size, 0, none⟩) l := fun _ => ⟨_, rfl, hc.out.row⟩
      clear hsp hlen hu hc1 hb1 hs1'
      go_wp2_with fail
      refine (zzKindOf _ s.size s.size l wr HL.out (by omega) hSl).mono ?_
      rintro e wx ⟨v, rfl, hv, m, hwx⟩
      obtain rfl : v = ki := by rw [hk.out]; exact kind_one hv.out (.inl ⟨i, hi, HSP.out, rfl⟩)
      have hc2 : Hid (Cells wx w.heap.size l) := by rw [hwx]; exact hc.out.drew
      have hb2 : Hid (Below w.heap.size w wx) := by rw [hwx]; exact drew_below hb.out
      have hsz2 : w.heap.size < wx.heap.size := by rw [hwx]; exact hsz
      clear hwx hv hSl hc hb hsz
      go_wp2_with (first | (at_make; refine wpList_make_full _ rfl _ _ 22 rfl wx.heap.size 5 i0 (.int .u8 0) 1 Try.underlying22 ei ez e1 .i64 .i64 _ _ (s.size + 1) rfl rfl rfl rfl (by rw [e2]; omega) (by unfold maxLen; omega) (Nat.le_refl _) ?_; intro w3 hown3 hgr3))
      have hc3 : Hid (Cells w3 wx.heap.size (List.replicate (s.size + 1) 0)) := Cells.made hown3
      have hb3 : Below wx.heap.size wx w3 := (Below.refl _ wx).grown hgr3 (Nat.le_refl _) (by simp)
      have hs3 : wx.heap.size < w3.heap.size := by
        rw [made_zeros] at hown3
        exact (Array.getElem?_eq_some_iff.1 (own_block hown3)).1
      clear hown3 hgr3
      go_loopw [15] (fun d wq => ∃ (k : Nat), k ≤ s.size ∧ d = .int .i64 k ∧ Hid (Cells wq wx.heap.size (l.take k ++ List.replicate (s.size + 1 - k) 0)) ∧ wx.heap.size < wq.heap.size ∧ Hid (Below wx.heap.size wx wq)) (fun d _ => s.size - (intOf d).toNat)
      case atStart => exact ⟨0, Nat.zero_le _, rfl, show Cells _ _ _ by simpa using hc3.out, hs3, hb3⟩
      case round =>
        obtain ⟨k, hks, rfl, hcq, hsq, hbq⟩ := hrel
        by_cases hlt : k < s.size
        · have hlt2 : (k : Int) < (s.size : Int) := by omega
          have hll := HL.out
          have hk2 : k < (l.take k ++ List.replicate (s.size + 1 - k) (0 : Int)).length := by simp; omega
          have hdst := hcq.out.cell k hk2
          have hfr := hcq.out.free k
          have hsrc : wr.cell? ⟨w.heap.size, k, none⟩ = some (.int .u8 (l.getD k 0)) := by
            rw [hbq.out.cell (by exact hsz2)]
            exact hc2.out.cell k (by omega)
          have hnew := hcq.out.store k (l.getD k 0) hk2
          have HN : Hid (Cells (wr.setCell ⟨wx.heap.size, k, none⟩ (.int .u8 (l.getD k 0))) wx.heap.size (l.take (k + 1) ++ List.replicate (s.size + 1 - (k + 1)) 0)) := by
            have hst : (l.take k ++ List.replicate (s.size + 1 - k) (0 : Int)).set k (l.getD k 0) = l.take (k + 1) ++ List.replicate (s.size + 1 - (k + 1)) 0 := by
              have e1 := set_step (zs := l ++ [0]) (k := k) (len := s.size + 1) (by omega) (by simp; omega)
              rw [List.take_append_of_le_length (by omega), List.take_append_of_le_length (by omega)] at e1
              rw [List.getD_eq_getElem?_getD, List.getElem?_append_left (by omega), ← List.getD_eq_getElem?_getD] at e1
              exact e1
            rw [hst] at hnew
            exact hnew
          have HB : Hid (Below wx.heap.size wx (wr.setCell ⟨wx.heap.size, k, none⟩ (.int .u8 (l.getD k 0)))) := hbq.out.setCell (Nat.le_refl _) _
          clear hnew hcq hk2 hll hbq
          generalize (l.take k ++ List.replicate (s.size + 1 - k) (0 : Int)).getD k 0 = old at *
          generalize l.getD k 0 = v at *
          go_wp2_with fail
          go_roundw
          case rel => exact ⟨k + 1, by omega, by go_num, HN, by rw [World.size_setCell]; exact hsq, HB⟩
          case measure => simp [intOf]; omega
        · obtain rfl : k = s.size := by omega
          have hcl : Cells wr wx.heap.size (l ++ [0]) := by
            have := hcq.out
            rw [List.take_of_length_le (by rw [HL.out]; exact Nat.le_refl _), show s.size + 1 - s.size = 1 from by omega] at this
            exact this
          have hk2 : s.size < (l ++ [(0 : Int)]).length := by have := HL.out; simp; omega
          have hdst := hcl.cell s.size hk2
          have hfr := hcl.free s.size
          have hst := hcl.store s.size c hk2
          have hset : (l ++ [(0 : Int)]).set s.size c = l ++ [c] := by
            rw [← HL.out]
            simp
          rw [hset] at hst
          have HC4 : Hid (Cells (wr.setCell ⟨wx.heap.size, s.size, none⟩ (.int .u8 c)) wx.heap.size (l ++ [c])) := hst
          have hbs : Below wx.heap.size wx (wr.setCell ⟨wx.heap.size, s.size, none⟩ (.int .u8 c)) := hbq.out.setCell (Nat.le_refl _) _
          have HB4 : Hid (Below w.heap.size w (wr.setCell ⟨wx.heap.size, s.size, none⟩ (.int .u8 c))) := hb2.out.trans (hbs.mono (by omega))
          have HCn : Hid (Cells (wr.setCell ⟨wx.heap.size, s.size, none⟩ (.int .u8 c)) w.heap.size l) := hc2.out.kept hbs hsz2
          clear hst hset hcl hk2 hbs hcq hbq hc3 hb3 hs3 hc2 hb2
          generalize (l ++ [(0 : Int)]).getD s.size 0 = old at *
          go_wp2_with fail
          generalize wr.setCell ⟨wx.heap.size, s.size, none⟩ (.int .u8 c) = w4 at *
          generalize wx.heap.size = B2 at *
          refine (zzKindOf (some ⟨B2, 0, none⟩) (s.size + 1) (s.size + 1) (l ++ [c]) w4 (by have := HL.out; simp; omega) (by omega) (fun _ => ⟨_, rfl, HC4.out.row⟩)).mono ?_
          rintro e w5 ⟨v5, rfl, hv5, m5, hw5⟩
          obtain rfl : v5 = 0 := longer hi HSP.out c v5 hv5.out
          have HC5 : Hid (Cells w5 w.heap.size l) := by rw [hw5]; exact HCn.out.drew
          have HB5 : Hid (Below w.heap.size w w5) := by rw [hw5]; exact drew_below HB4.out
          clear hv5 hw5 HC4 HB4 HCn
          have hx1 : ((s.size : Int) - 1) = ((s.size - 1 : Nat) : Int) := by omega
          go_wp2_with fail
          refine (zzKindOf (some ⟨w.heap.size, 0, none⟩) (s.size - 1) s.size (l.take (l.length - 1)) w5 (by have := HL.out; simp; omega) (by omega) (fun _ => ⟨_, rfl, fun j hj => ?row5⟩)).mono ?_
          case row5 =>
            have := HL.out
            rw [List.length_take] at hj
            rw [HC5.out.cell j (by omega), List.getD_eq_getElem?_getD, List.getD_eq_getElem?_getD, List.getElem?_take, if_pos (by omega)]
          rintro e w6 ⟨v6, rfl, hv6, m6, hw6⟩
          obtain rfl : v6 = 0 := shorter hi HSP.out v6 hv6.out
          have HC6 : Hid (Cells w6 w.heap.size l) := by rw [hw6]; exact HC5.out.drew
          have HB6 : Hid (Below w.heap.size w w6) := by rw [hw6]; exact drew_below HB5.out
          clear hv6 hw6 HC5 HB5
          by_cases hp0 : p < 0
          · go_wp2_with fail
            go_ret
            exact ⟨rfl, HB6.out⟩
          by_cases hp1 : p < (s.size : Int)
          · obtain ⟨q, rfl⟩ : ∃ q : Nat, p = (q : Int) := ⟨p.toNat, by omega⟩
            have hq : q < s.size := by omega
            have hq2 : q < l.length := by have := HL.out; omega
            have hbq := bAt_lt hq
            have hdst := HC6.out.cell q hq2
            have hfr := HC6.out.free q
            have HN : Hid (Cells (w6.setCell ⟨w.heap.size, q, none⟩ (.int .u8 c)) w.heap.size (l.set q c)) := HC6.out.store q c hq2
            have HB7 : Hid (Below w.heap.size w (w6.setCell ⟨w.heap.size, q, none⟩ (.int .u8 c))) := HB6.out.setCell (Nat.le_refl _) _
            have HQ : Hid (((s[q].toNat : Nat) : Int) = bAt s q) := hbq
            have h255 := bAt_le s q
            generalize l.getD q 0 = old7 at *
            clear hq2 HC6 hbq
            by_cases hf : Fits c (bAt s q)
            · by_cases h1 : c = bAt s q
              · have hd : (c == ((s[q].toNat : Nat) : Int)) = true := by rw [HQ.out, beq_iff_eq]; exact h1
                clear hf h1 h255
                go_wp2_with fail
                go_ret
                exact ⟨rfl, HB6.out⟩
              · have hd : (c == ((s[q].toNat : Nat) : Int)) = false := by rw [HQ.out, beq_eq_false_iff_ne]; exact h1
                have h97 : 97 ≤ ((s[q].toNat : Nat) : Int) := by rw [HQ.out]; unfold Fits at hf; omega
                have h122 : ((s[q].toNat : Nat) : Int) ≤ 122 := by rw [HQ.out]; unfold Fits at hf; omega
                have hd2 : (c == ((s[q].toNat : Nat) : Int) - 32) = true := by rw [HQ.out, beq_iff_eq]; unfold Fits at hf; omega
                clear hf h1 h255
                go_wp2_with fail
                go_ret
                exact ⟨rfl, HB6.out⟩
            · have HF : Hid (∀ k, KindIs (l.set q c) k → k = 0) := show ∀ k, _ from fun k hk => other hi HSP.out q (by rw [← hs.out]; exact hq) c (by rw [← hs.out]; exact hf) k hk
              have h1 : c ≠ bAt s q := fun e => hf (.inl e)
              have hd : (c == ((s[q].toNat : Nat) : Int)) = false := by rw [HQ.out, beq_eq_false_iff_ne]; exact h1
              have hgo : ∀ (w8 : World), Hid (Cells w8 w.heap.size (l.set q c)) → Hid (Below w.heap.size w w8) → Calls Try.prog 11 #[.slice (some ⟨w.heap.size, 0, none⟩) s.size s.size] w8 fun e w9 => e = .returned (.int .u8 0) ∧ Below w.heap.size w w9 := by
                intro w8 hc8 hb8
                refine (zzKindOf _ s.size s.size (l.set q c) w8 (by rw [List.length_set]; exact HL.out) (by omega) (fun _ => ⟨_, rfl, hc8.out.row⟩)).mono ?_
                rintro e w9 ⟨v9, rfl, hv9, m9, rfl⟩
                rw [HF.out v9 hv9.out]
                exact ⟨rfl, drew_below hb8.out⟩
              have HG : Hid (∀ (w8 : World), Hid (Cells w8 w.heap.size (l.set q c)) → Hid (Below w.heap.size w w8) → Calls Try.prog 11 #[.slice (some ⟨w.heap.size, 0, none⟩) s.size s.size] w8 fun e w9 => e = .returned (.int .u8 0) ∧ Below w.heap.size w w9) := hgo
              clear hgo
              by_cases h97 : 97 ≤ ((s[q].toNat : Nat) : Int)
              · by_cases h122 : ((s[q].toNat : Nat) : Int) ≤ 122
                · have hd2 : (c == ((s[q].toNat : Nat) : Int) - 32) = false := by
                    rw [beq_eq_false_iff_ne]
                    intro e
                    exact hf (.inr ⟨by rw [← HQ.out]; exact h97, by rw [← HQ.out]; exact h122, by rw [← HQ.out]; exact e⟩)
                  clear hf h1 h255
                  go_wp2_with fail
                  refine (HG.out _ HN HB7).mono ?_
                  rintro e w9 ⟨rfl, hb9⟩
                  have HB9 : Hid (Below w.heap.size w w9) := hb9
                  clear hb9
                  go_wp2_with fail
                  go_ret
                  exact ⟨rfl, HB9.out⟩
                · clear hf h1 h255
                  go_wp2_with fail
                  refine (HG.out _ HN HB7).mono ?_
                  rintro e w9 ⟨rfl, hb9⟩
                  have HB9 : Hid (Below w.heap.size w w9) := hb9
                  clear hb9
                  go_wp2_with fail
                  go_ret
                  exact ⟨rfl, HB9.out⟩
              · clear hf h1 h255
                go_wp2_with fail
                refine (HG.out _ HN HB7).mono ?_
                rintro e w9 ⟨rfl, hb9⟩
                have HB9 : Hid (Below w.heap.size w w9) := hb9
                clear hb9
                go_wp2_with fail
                go_ret
                exact ⟨rfl, HB9.out⟩
          · go_wp2_with fail
            go_ret
            exact ⟨rfl, HB6.out⟩

theorem law (i f p c : Int) (w : World) : Calls Try.prog 4 #[.int .i64 i, .int .u32 f, .int .i64 p, .int .u8 c] w fun e w' => e = .returned (.bool true) ∧ Below w.heap.size w w' := by
  by_cases h : i < 0 ∨ 12 ≤ i
  · exact out i f p c w h
  · obtain ⟨j, rfl⟩ : ∃ j : Nat, i = (j : Int) := ⟨i.toNat, by omega⟩
    exact main j f p c w (by omega)
end Go.Proofs.Qxb6605477a.NearLaw
