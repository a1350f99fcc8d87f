/-
  FnContentTruncateKeepsPrefixAndZeros (5): the walk.
-/
import Derived.Test.Qxb6003812aContentTrunc
import Derived.Test.Qxb6003812aContentLaw
import Derived.Deep.QuietTactic
import Derived.BigQuiet
namespace Go.Proofs.Qxb6003812a.TruncLaw
open Go.RowKit Go.Proofs.Qxb6003812a.ContentPage Go.Proofs.Qxb6003812a.ContentSet Go.Proofs.Qxb6003812a.ContentPlain Go.Proofs.Qxb6003812a.ContentWrite Go.Proofs.Qxb6003812a.ContentRead Go.Proofs.Qxb6003812a.ContentAids Go.Proofs.Qxb6003812a.ContentCut Go.Proofs.Qxb6003812a.ContentTrunc Go.Proofs.Qxb6003812a.ContentLaw

set_option maxHeartbeats 1000000 in
theorem bytes26_yes (a0 : Option Addr) (n0 c0 : Nat) (x y : Int) (w : World) (h : n0 ≤ 1048576) :
    Calls Try.prog 26 #[.slice a0 n0 c0, .int .i64 x, .int .i64 y] w fun e w' => e = .returned (.bool true) ∧ w' = w := by
  go_enter Try.func26, Try.ntmps26
  go_wp2
  go_ret
  exact ⟨rfl, rfl⟩

set_option maxHeartbeats 1000000 in
theorem bytes26_no (a0 : Option Addr) (n0 c0 : Nat) (x y : Int) (w : World) (h0 : n0 ≤ 9223372036854775807) (h : ¬ n0 ≤ 1048576) :
    Calls Try.prog 26 #[.slice a0 n0 c0, .int .i64 x, .int .i64 y] w fun e w' => e = .returned (.bool false) ∧ w' = w := by
  go_enter Try.func26, Try.ntmps26
  go_wp2
  go_ret
  exact ⟨rfl, rfl⟩

set_option maxHeartbeats 2000000 in
theorem early (a0 : Option Addr) (n0 c0 : Nat) (x y : Int) (w : World) (h0 : n0 ≤ 9223372036854775807) (h : 131072 < n0 ∨ x < 0 ∨ 262144 < x ∨ y < 0 ∨ 262144 < y) :
    Calls Try.prog 5 #[.slice a0 n0 c0, .int .i64 x, .int .i64 y] w fun e w' => e = .returned (.bool true) ∧ Below w.heap.size w w' := by
  by_cases hb : n0 ≤ 1048576
  · by_cases hb2 : n0 ≤ 131072
    · have h' : x < 0 ∨ 262144 < x ∨ y < 0 ∨ 262144 < y := by omega
      clear h
      by_cases h1 : x < 0
      · clear h'
        go_enter Try.func5, Try.ntmps5
        go_wp2_with fail
        refine (bytes26_yes _ _ _ _ _ _ hb).mono ?_
        rintro e w1 ⟨rfl, rfl⟩
        go_wp2_with fail
        go_ret
        exact ⟨rfl, Below.refl _ _⟩
      · by_cases h2 : 262144 < x
        · clear h'
          go_enter Try.func5, Try.ntmps5
          go_wp2_with fail
          refine (bytes26_yes _ _ _ _ _ _ hb).mono ?_
          rintro e w1 ⟨rfl, rfl⟩
          go_wp2_with fail
          go_ret
          exact ⟨rfl, Below.refl _ _⟩
        · by_cases h3 : y < 0
          · clear h'
            go_enter Try.func5, Try.ntmps5
            go_wp2_with fail
            refine (bytes26_yes _ _ _ _ _ _ hb).mono ?_
            rintro e w1 ⟨rfl, rfl⟩
            go_wp2_with fail
            go_ret
            exact ⟨rfl, Below.refl _ _⟩
          · have h4 : 262144 < y := by omega
            clear h'
            go_enter Try.func5, Try.ntmps5
            go_wp2_with fail
            refine (bytes26_yes _ _ _ _ _ _ hb).mono ?_
            rintro e w1 ⟨rfl, rfl⟩
            go_wp2_with fail
            go_ret
            exact ⟨rfl, Below.refl _ _⟩
    · clear h
      go_enter Try.func5, Try.ntmps5
      go_wp2_with fail
      refine (bytes26_yes _ _ _ _ _ _ hb).mono ?_
      rintro e w1 ⟨rfl, rfl⟩
      go_wp2_with fail
      go_ret
      exact ⟨rfl, Below.refl _ _⟩
  · clear h
    go_enter Try.func5, Try.ntmps5
    go_wp2_with fail
    refine (bytes26_no _ _ _ _ _ _ h0 hb).mono ?_
    rintro e w1 ⟨rfl, rfl⟩
    go_wp2_with fail
    go_ret
    exact ⟨rfl, Below.refl _ _⟩

/-- the pages behind both truncations, flat. -/
theorem trunc_flat {n c g : Nat} {L : List Int} {p1 : Pages} (hw : Wr p0 0 L n p1) :
    (∀ x, rd (cutTo (cutTo p1 n c) c g) x = if x < min (min n c) g then L.getD x 0 else 0) ∧ ∀ i, ((cutTo (cutTo p1 n c) c g).pg i).length ≤ min (min n c) g - i * 65536 := by
  have h1 : ∀ x, rd p1 x = if x < n then L.getD x 0 else 0 := by
    intro x
    rw [hw.flat x]
    have hr : rd p0 x = 0 := rfl
    by_cases hx : x < n
    · rw [if_pos (by omega), if_pos hx, Nat.sub_zero]
    · rw [if_neg (by omega), if_neg hx, hr]
  have h2 : ∀ x, rd (cutTo p1 n c) x = if x < min n c then L.getD x 0 else 0 := by
    intro x
    unfold cutTo
    by_cases hc : c < n
    · rw [if_pos hc, cut_rd, h1]
      by_cases hx : x < c
      · rw [if_pos hx, if_pos (by omega), if_pos (by omega)]
      · rw [if_neg hx, if_neg (by omega)]
    · rw [if_neg hc, h1, show min n c = n from by omega]
  have l1 : ∀ i, (p1.pg i).length ≤ n - i * 65536 := by
    intro i
    have := hw.lens i
    have e : (p0.pg i).length = 0 := rfl
    omega
  have l2 : ∀ i, ((cutTo p1 n c).pg i).length ≤ min n c - i * 65536 := by
    intro i
    have := l1 i
    unfold cutTo
    by_cases hc : c < n
    · rw [if_pos hc, cut_len]; omega
    · rw [if_neg hc]; omega
  refine ⟨fun x => ?_, fun i => ?_⟩
  · rw [cutTo]
    by_cases hg : g < c
    · rw [if_pos hg, cut_rd, h2]
      by_cases hx : x < g
      · rw [if_pos hx]
        by_cases hx2 : x < min n c
        · rw [if_pos hx2, if_pos (by omega)]
        · rw [if_neg hx2, if_neg (by omega)]
      · rw [if_neg hx, if_neg (by omega)]
    · rw [if_neg hg, h2]
      by_cases hx2 : x < min n c
      · rw [if_pos hx2, if_pos (by omega)]
      · rw [if_neg hx2, if_neg (by omega)]
  · have := l2 i
    rw [cutTo]
    by_cases hg : g < c
    · rw [if_pos hg, cut_len]; omega
    · rw [if_neg hg]; omega

set_option maxHeartbeats 4000000 in
set_option maxRecDepth 100000 in
theorem main (a0 : Option Addr) (n c0 : Nat) (z0 : List Int) (c g : Nat) (w : World) (w0 : IsRow .u8 w a0 n c0 z0) (hn : n ≤ 131072) (hc : c ≤ 262144) (hg : g ≤ 262144) :
    Calls Try.prog 5 #[.slice a0 n c0, .int .i64 c, .int .i64 g] w fun e w' => e = .returned (.bool true) ∧ Below w.heap.size w w' := by
  have W0 : Hid (IsRow .u8 w a0 n c0 z0) := w0
  clear w0
  go_enter Try.func5, Try.ntmps5
  go_wp2_with fail
  refine (bytes26_yes _ _ _ _ _ _ (by omega)).mono ?_
  rintro e wx ⟨rfl, hwx⟩
  have hwx' := hwx.symm
  subst hwx'
  clear hwx
  go_wp2_with fail
  refine (clone_any a0 n c0 z0 w W0.out (by omega)).mono ?_
  rintro e w1 ⟨ao, rfl, ow, hl0, hb1⟩
  generalize z0.take n = L at *
  have OW : Hid (Own w1 w.heap.size w1.heap.size ao L) := ow
  have hsz1 : w.heap.size ≤ w1.heap.size := hb1.size
  clear W0 ow
  go_wp2_with fail
  refine (zzNew w1).mono ?_
  rintro e w2 ⟨rfl, hw2⟩
  have hc2 : Con w2 w1.heap.size 0 0 none p0 := by rw [hw2]; exact con_new _ _
  have hb2 : Below w1.heap.size w1 w2 := by rw [hw2]; exact (Below.refl _ _).alloc (Nat.le_refl _) _
  clear hw2
  have OW2 : Hid (Own w2 w.heap.size w1.heap.size ao L) := OW.out.kept hb2 (Nat.le_refl _)
  have hB2 : Below w.heap.size w w2 := hb1.trans (hb2.mono hsz1)
  clear OW hb1 hb2
  generalize w1.heap.size = cb at *
  go_wp2_with fail
  refine (write_any w2 cb 0 0 none p0 hc2 ao n L hl0.out w.heap.size OW2.out 0 0 rfl (by omega) (by omega)).mono ?_
  rintro e w3 ⟨rfl, r3, p3, hc3, hw3, hb3⟩
  have OW3 : Hid (Own w3 w.heap.size cb ao L) := OW2.out.kept hb3 (Nat.le_refl _)
  have hB3 : Below w.heap.size w w3 := hB2.trans (hb3.mono hsz1)
  rw [show max 0 (((0 : Nat) : Int) + (n : Int)) = (n : Int) from by omega] at hc3
  clear OW2 hB2 hb3 hc2
  go_wp2_with fail
  refine (zzTrunc w3 cb _ n r3 p3 hc3 c (by omega) (by omega)).mono ?_
  rintro e w4 ⟨rfl, hc4, hb4⟩
  have OW4 : Hid (Own w4 w.heap.size cb ao L) := OW3.out.kept hb4 (Nat.le_refl _)
  have hB4 : Below w.heap.size w w4 := hB3.trans (hb4.mono hsz1)
  clear OW3 hB3 hb4 hc3
  go_wp2_with fail
  refine (zzTrunc w4 cb _ c r3 _ hc4 g (by omega) (by omega)).mono ?_
  rintro e w5 ⟨rfl, hc5, hb5⟩
  have OW5 : Hid (Own w5 w.heap.size cb ao L) := OW4.out.kept hb5 (Nat.le_refl _)
  have hB5 : Below w.heap.size w w5 := hB4.trans (hb5.mono hsz1)
  have hfl := trunc_flat (c := c) (g := g) hw3
  have HFL : Hid _ := hfl
  clear OW4 hB4 hb5 hc4 hw3 hfl
  generalize cutTo (cutTo p3 n c) c g = p5 at *
  go_upto_if 52 with fail
  go_cut [8] from 14 to 57 (fun s8 wx => ∃ K : Nat, K = min n c ∧ s8 = .int .i64 (K : Int) ∧ wx = w5)
  case first =>
    go_wp2
    all_goals
      go_meet
      case rel => exact ⟨min n c, rfl, by go_num, rfl⟩
  case rest =>
    obtain ⟨K1, hK1, rfl, hwc⟩ := hcut
    have hwc' := hwc.symm
    subst hwc'
    clear hwc
    have HK1 : Hid (K1 = min n c) := hK1
    have hK1' : K1 ≤ 262144 := by omega
    clear hK1
    go_upto_if 56 with fail
    go_cut [8] from 14 to 57 (fun s8 wx => ∃ K : Nat, K = min K1 g ∧ s8 = .int .i64 (K : Int) ∧ wx = w5)
    case first =>
      go_wp2
      all_goals
        go_meet
        case rel => exact ⟨min K1 g, rfl, by go_num, rfl⟩
    case rest =>
      obtain ⟨K, hK, rfl, hwc⟩ := hcut
      have hwc' := hwc.symm
      subst hwc'
      clear hwc
      have HK : Hid (K = min (min n c) g) := show _ = _ by rw [hK, HK1.out]
      have hKg : K ≤ g := by omega
      have hKn : K ≤ n := by have := HK1.out; omega
      clear hK HK1 hK1'
      rw [← HK.out] at HFL
      clear HK
      go_wp2_with fail
      refine (zzSize w5 cb _ _ r3 p5 hc5).mono ?_
      rintro e wx ⟨rfl, hwx⟩
      have hwx' := hwx.symm
      subst hwx'
      clear hwx
      obtain ⟨i0, ei, ez, e1, e2⟩ := info_parts info5
      have hgb : cb < w5.heap.size := hc5.lt
      go_wp2_with (at_make; refine wpList_make_full _ rfl _ _ 39 rfl w.heap.size 5 i0 (.int .u8 0) 1 Try.underlying39 ei ez e1 .i64 .i64 _ _ g rfl rfl rfl rfl (by rw [e2]; omega) (by unfold maxLen; omega) (by omega) ?_; intro w6 hown6 hgr6)
      rw [made_zeros] at hown6
      have hg6 := own_block hown6
      have hc6 := con_none hc5 hgr6
      have hfr : ∀ i, (p5.val i).ownBlock = none ∨ (p5.val i).ownBlock ≠ some w5.heap.size := fun i => row_lt (hc5.row i) (Nat.le_refl _)
      refine (read_any w6 cb _ g r3 p5 hc6 (by omega) w5.heap.size (by omega) (ints (List.replicate g 0)) (by simp [ints]) hg6 hfr).mono ?_
      rintro e w7 ⟨rfl, hg7, hgr7⟩
      have hb57 : Below cb w5 w7 := ((Below.refl cb w5).grown hgr6 (Nat.le_of_lt hgb) (by simp)).grown hgr7 (Nat.le_trans (Nat.le_of_lt hgb) hgr6.size) (fun k hk => by simp at hk; omega)
      have OW7 : Hid (Own w7 w.heap.size cb ao L) := OW5.out.kept hb57 (Nat.le_refl _)
      have hB7 : Below w.heap.size w w7 := hB5.trans (hb57.mono hsz1)
      have hc7 : Con w7 cb _ _ r3 p5 := con_other hc6 hgr7 (by omega) hg6 hfr
      clear hown6 hg6 hc6 hgr6 hgr7 hfr hB5 hc5 OW5 hb57
      generalize w5.heap.size = gb at *
      have hE : Hid (∀ k, k < g → w7.cell? ⟨gb, k, none⟩ = some (.int .u8 (rd p5 k))) := fun k hk => by rw [int_cell hg7.out (n := g) (by simp) hk, range_getD _ _ _ hk]
      have hZ : Hid (∀ k, K ≤ k → rd p5 k = 0) := fun k hk => by rw [HFL.out.1 k, if_neg (by omega)]
      have hLn : Hid (∀ i, (p5.pg i).length ≤ K - i * 65536) := HFL.out.2
      have hS : Hid (∀ x k, ao = some x → k < K → w7.cell? (x.add k) = some (.int .u8 (rd p5 k))) := fun x k hx hk => by
        obtain ⟨b, e, _, _, hb⟩ := OW7.out (by have := hl0.out; omega)
        rw [e] at hx
        simp only [Option.some.injEq] at hx
        subst hx
        have hadd : (⟨b, 0, none⟩ : Addr).add k = ⟨b, k, none⟩ := by unfold Addr.add; split <;> simp_all
        rw [hadd, int_cell hb hl0.out (by omega), HFL.out.1 k, if_pos hk]
      have hN : Hid (ao = none → K = 0) := fun e => by
        by_cases hk : 0 < K
        · obtain ⟨b, e', _⟩ := OW7.out (by have := hl0.out; omega)
          rw [e] at e'
          cases e'
        · omega
      clear hg7 HFL OW7
      cases ao with
      | none =>
        have hK0 : K = 0 := hN.out rfl
        go_wp2_with fail
        go_loopw [10] (fun d wr => ∃ k : Nat, k ≤ g ∧ d = .int .i64 k ∧ ∃ nq, wr = w7.drewN nq) (fun d _ => g - (intOf d).toNat)
        case atStart => exact ⟨0, Nat.zero_le _, rfl, 0, rfl⟩
        case round =>
          obtain ⟨k, hk, rfl, nq, rfl⟩ := hrel
          by_cases hlt : k < g
          · have cA := hE.out k hlt
            have hlt2 : (k : Int) < (g : Int) := by omega
            by_cases hkK : k < K
            · omega
            · rw [hZ.out k (by omega)] at cA
              go_wp2_with fail
              go_roundw
              case rel => exact ⟨k + 1, by omega, by go_num, _, rfl⟩
              case measure => simp [intOf]; omega
          · have hB8 : Below w.heap.size w (w7.drewN nq) := below_drewN hB7 nq
            have hc8 : Con (w7.drewN nq) cb (0 + n) (g : Int) r3 p5 := con_none hc7 ⟨rfl, rfl, rfl, Nat.le_refl _, fun _ _ _ => rfl⟩
            clear hE hB7 hc7 hS hZ
            generalize w7.drewN nq = w8 at *
            go_wp2_with fail
            go_loopw [11] (fun d wr => ∃ k : Nat, k ≤ 8 ∧ d = .int .i64 k ∧ wr = w8) (fun d _ => 8 - (intOf d).toNat)
            case atStart => exact ⟨0, Nat.zero_le _, rfl, rfl⟩
            case round =>
              obtain ⟨i, hi, rfl, hwr⟩ := hrel
              have hwr' := hwr.symm
              subst hwr'
              clear hwr
              by_cases hi8 : i < 8
              · go_wp2_with fail
                refine (zzPage w8 cb _ _ r3 p5 hc8 i (by omega)).mono ?_
                rintro e wx ⟨rfl, hwx⟩
                have hwx' := hwx.symm
                subst hwx'
                clear hwx
                have hpl := hLn.out i
                by_cases hst : K ≤ i * 65536
                · have hz : (((p5.pg i).length : Int) != 0) = false := by rw [show (p5.pg i).length = 0 from by omega]; rfl
                  go_wp2_with fail
                  go_roundw
                  case rel => exact ⟨i + 1, by omega, by go_num, trivial⟩
                  case measure => simp [intOf]; omega
                · omega
              · go_wp2
                go_ret
                exact ⟨rfl, hB8⟩
      | some x =>
        go_wp2_with fail
        go_loopw [10] (fun d wr => ∃ k : Nat, k ≤ g ∧ d = .int .i64 k ∧ ∃ nq, wr = w7.drewN nq) (fun d _ => g - (intOf d).toNat)
        case atStart => exact ⟨0, Nat.zero_le _, rfl, 0, rfl⟩
        case round =>
          obtain ⟨k, hk, rfl, nq, rfl⟩ := hrel
          by_cases hlt : k < g
          · have cA := hE.out k hlt
            have hlt2 : (k : Int) < (g : Int) := by omega
            by_cases hkK : k < K
            · have cB := hS.out x k rfl hkK
              have hkn : (k : Int) < (n : Int) := by omega
              generalize rd p5 k = v at *
              go_wp2_with fail
              go_quiet (fail)
              go_wp2
              go_roundw
              case rel => exact ⟨k + 1, by omega, by go_num, _, rfl⟩
              case measure => simp [intOf]; omega
            · rw [hZ.out k (by omega)] at cA
              go_wp2_with fail
              go_roundw
              case rel => exact ⟨k + 1, by omega, by go_num, _, rfl⟩
              case measure => simp [intOf]; omega
          · have hB8 : Below w.heap.size w (w7.drewN nq) := below_drewN hB7 nq
            have hc8 : Con (w7.drewN nq) cb (0 + n) (g : Int) r3 p5 := con_none hc7 ⟨rfl, rfl, rfl, Nat.le_refl _, fun _ _ _ => rfl⟩
            clear hE hB7 hc7 hS hZ
            generalize w7.drewN nq = w8 at *
            go_wp2_with fail
            go_loopw [11] (fun d wr => ∃ k : Nat, k ≤ 8 ∧ d = .int .i64 k ∧ wr = w8) (fun d _ => 8 - (intOf d).toNat)
            case atStart => exact ⟨0, Nat.zero_le _, rfl, rfl⟩
            case round =>
              obtain ⟨i, hi, rfl, hwr⟩ := hrel
              have hwr' := hwr.symm
              subst hwr'
              clear hwr
              by_cases hi8 : i < 8
              · go_wp2_with fail
                refine (zzPage w8 cb _ _ r3 p5 hc8 i (by omega)).mono ?_
                rintro e wx ⟨rfl, hwx⟩
                have hwx' := hwx.symm
                subst hwx'
                clear hwx
                have hpl := hLn.out i
                by_cases hst : K ≤ i * 65536
                · have hz : (((p5.pg i).length : Int) != 0) = false := by rw [show (p5.pg i).length = 0 from by omega]; rfl
                  go_wp2_with fail
                  go_roundw
                  case rel => exact ⟨i + 1, by omega, by go_num, trivial⟩
                  case measure => simp [intOf]; omega
                · go_wp2_with fail
                  go_roundw
                  case rel => exact ⟨i + 1, by omega, by go_num, trivial⟩
                  case measure => simp [intOf]; omega
              · go_wp2
                go_ret
                exact ⟨rfl, hB8⟩

/-- the law, whatever comes in. -/
theorem law (a0 : Option Addr) (n c0 : Nat) (z0 : List Int) (x y : Int) (w : World) (w0 : IsRow .u8 w a0 n c0 z0) :
    Calls Try.prog 5 #[.slice a0 n c0, .int .i64 x, .int .i64 y] w fun e w' => e = .returned (.bool true) ∧ Below w.heap.size w w' := by
  by_cases h : 131072 < n ∨ x < 0 ∨ 262144 < x ∨ y < 0 ∨ 262144 < y
  · exact early a0 n c0 x y w w0.len h
  · obtain ⟨c, rfl⟩ := Int.eq_ofNat_of_zero_le (show 0 ≤ x by omega)
    obtain ⟨g, rfl⟩ := Int.eq_ofNat_of_zero_le (show 0 ≤ y by omega)
    exact main a0 n c0 z0 c g w w0 (by omega) (by omega) (by omega)
end Go.Proofs.Qxb6003812a.TruncLaw
