/-
  ZZCompactionNumber (8), FnCompactionNumberFollowsJSONNumberAutomaton (3).
-/
import Derived.Test.Qxb6605418aNumber
namespace Go.Proofs.Qxb6605418a.NumLaw
open Go.RowKit Go.Proofs.Qxb6605418a.Aids Go.Proofs.Qxb6605418a.NumPlain Go.Proofs.Qxb6605418a.NumWalks Go.Proofs.Qxb6605418a.Number
set_option linter.unusedVariables false

theorem st_new {w : World} {Bk n i : Nat} {t : List Int} {st : Int} {out : Value} (hl : t.length = n) (hc : Cells w Bk t) (hb : Bk < w.heap.size) :
    St (w.alloc (Obj.cells #[.slice (some ⟨Bk, 0, none⟩) n n, .int .i64 i, .int .i64 st, out] 32)) w.heap.size Bk n t i := by
  have hg : (w.alloc (Obj.cells #[.slice (some ⟨Bk, 0, none⟩) n n, .int .i64 i, .int .i64 st, out] 32)).heap[w.heap.size]? = some (Obj.cells #[.slice (some ⟨Bk, 0, none⟩) n n, .int .i64 i, .int .i64 st, out] 32) := (MapKept.heap_alloc w _).1
  have key : ∀ (w' : World) (b : Nat), w'.heap[b]? = some (Obj.cells #[.slice (some ⟨Bk, 0, none⟩) n n, .int .i64 i, .int .i64 st, out] 32) → w'.cell? ⟨b, 0, none⟩ = some (.slice (some ⟨Bk, 0, none⟩) n n) ∧ w'.cell? ⟨b, 1, none⟩ = some (.int .i64 i) ∧ w'.frozen? ⟨b, 1, none⟩ = false := by
    intro w' b h
    simp [World.cell?, World.frozen?, h]
  obtain ⟨k1, k2, k3⟩ := key _ _ hg
  refine ⟨k1, k2, k3, fun j hj => ?_, by omega⟩
  rw [((Below.refl w.heap.size w).alloc (Nat.le_refl _) _).cell (by exact hb)]
  exact hc.cell j (by omega)

set_option maxHeartbeats 2000000 in
theorem zzNumber (Bk n i : Nat) (t : List Int) (st : Int) (ao : Option Addr) (no : Nat) (w : World) (hl : t.length = n) (hn : n ≤ 1000000) (hi : i < n) (hc : Cells w Bk t) (hbk : Bk < w.heap.size) :
    Calls Try.prog 8 #[.slice (some ⟨Bk, 0, none⟩) n n, .int .i64 i, .int .i64 st, .slice ao no no] w fun e w' => Ans e t i ∧ Below w.heap.size w w' := by
  have HL : Hid (t.length = n) := hl
  have HC : Hid (Cells w Bk t) := hc
  clear hl hc
  go_enter Try.func8, Try.ntmps8
  go_wp2_with fail
  refine (number w.heap.size Bk n i t _ HL.out hn hi (st_new HL.out HC.out hbk)).mono ?_
  rintro e w3 ⟨⟨r, k, rfl, hd, ca⟩, hb3⟩
  have HD : Hid (Done t i r k) := hd
  have HB : Hid (Below w.heap.size w w3) := ((Below.refl _ w).alloc (Nat.le_refl _) _).trans hb3
  clear hd hb3
  go_wp2_with fail
  go_quiet (fail)
  go_wp2_with fail
  go_ret2
  exact ⟨ans HD.out, drew_below HB.out⟩

set_option maxHeartbeats 1000000 in
theorem bytes_yes (a0 a1 : Option Addr) (n0 c0 n1 c1 : Nat) (x y : Int) (w : World) (h : n0 + n1 ≤ 1048576) :
    Calls Try.prog 6 #[.slice a0 n0 c0, .int .i64 x, .int .i64 y, .slice a1 n1 c1] w fun e w' => e = .returned (.bool true) ∧ w' = w := by
  go_enter Try.func6, Try.ntmps6
  go_wp2
  go_ret
  exact ⟨rfl, rfl⟩

set_option maxHeartbeats 1000000 in
theorem bytes_no (a0 a1 : Option Addr) (n0 c0 n1 c1 : Nat) (x y : Int) (w : World) (h0 : n0 ≤ 9223372036854775807) (h1 : n1 ≤ 9223372036854775807) (h : 1048576 < n0 + n1) :
    Calls Try.prog 6 #[.slice a0 n0 c0, .int .i64 x, .int .i64 y, .slice a1 n1 c1] w fun e w' => e = .returned (.bool false) ∧ w' = w := by
  by_cases h2 : n0 ≤ 1048576
  · by_cases h3 : n1 ≤ 1048576
    · go_enter Try.func6, Try.ntmps6
      go_wp2
      go_ret
      exact ⟨rfl, rfl⟩
    · go_enter Try.func6, Try.ntmps6
      go_wp2
      go_ret
      exact ⟨rfl, rfl⟩
  · go_enter Try.func6, Try.ntmps6
    go_wp2
    go_ret
    exact ⟨rfl, rfl⟩

set_option maxHeartbeats 1000000 in
theorem early (a0 a1 : Option Addr) (n0 c0 n1 c1 : Nat) (x y : Int) (w : World) (h0 : n0 ≤ 9223372036854775807) (h1 : n1 ≤ 9223372036854775807) (h : 1048576 < n0 + n1 ∨ 524288 < n0 ∨ 524288 < n1 ∨ x < 0 ∨ (n0 : Int) ≤ x) :
    Calls Try.prog 3 #[.slice a0 n0 c0, .int .i64 x, .int .i64 y, .slice a1 n1 c1] w fun e w' => e = .returned (.bool true) ∧ Below w.heap.size w w' := by
  by_cases hb : n0 + n1 ≤ 1048576
  · by_cases h2 : n0 ≤ 524288
    · by_cases h3 : n1 ≤ 524288
      · by_cases h4 : x < 0
        · clear h
          go_enter Try.func3, Try.ntmps3
          go_wp2_with fail
          refine (bytes_yes _ _ _ _ _ _ _ _ _ hb).mono ?_
          rintro e w1 ⟨rfl, rfl⟩
          go_wp2_with fail
          go_ret
          exact ⟨rfl, Below.refl _ _⟩
        · have h5 : (n0 : Int) ≤ x := by omega
          clear h
          go_enter Try.func3, Try.ntmps3
          go_wp2_with fail
          refine (bytes_yes _ _ _ _ _ _ _ _ _ hb).mono ?_
          rintro e w1 ⟨rfl, rfl⟩
          go_wp2_with fail
          go_ret
          exact ⟨rfl, Below.refl _ _⟩
      · clear h
        go_enter Try.func3, Try.ntmps3
        go_wp2_with fail
        refine (bytes_yes _ _ _ _ _ _ _ _ _ hb).mono ?_
        rintro e w1 ⟨rfl, rfl⟩
        go_wp2_with fail
        go_ret
        exact ⟨rfl, Below.refl _ _⟩
    · clear h
      go_enter Try.func3, Try.ntmps3
      go_wp2_with fail
      refine (bytes_yes _ _ _ _ _ _ _ _ _ hb).mono ?_
      rintro e w1 ⟨rfl, rfl⟩
      go_wp2_with fail
      go_ret
      exact ⟨rfl, Below.refl _ _⟩
  · clear h
    go_enter Try.func3, Try.ntmps3
    go_wp2_with fail
    refine (bytes_no _ _ _ _ _ _ _ _ _ h0 h1 (by omega)).mono ?_
    rintro e w1 ⟨rfl, rfl⟩
    go_wp2_with fail
    go_ret
    exact ⟨rfl, Below.refl _ _⟩

theorem IsRow.kept {w w' : World} {a : Option Addr} {len cap : Nat} {zs : List Int} (h : IsRow .u8 w a len cap zs) (hb : Below w.heap.size w w') : IsRow .u8 w' a len cap zs := by
  rcases h with hn | ⟨x, h1, h2, h3, h4, h5, h6⟩
  · exact .inl hn
  · refine .inr ⟨x, h1, h2, h3, h4, fun i hi => ?_, h6⟩
    have hc := h5 i hi
    rw [hb.cell (World.block_lt_of_cell? w _ hc)]
    exact hc

set_option maxHeartbeats 2000000 in
theorem main (a0 a1 : Option Addr) (n c0 n1 c1 : Nat) (z0 z1 : List Int) (i : Nat) (y : Int) (w : World) (w0 : IsRow .u8 w a0 n c0 z0) (w1 : IsRow .u8 w a1 n1 c1 z1) (h0 : n ≤ 524288) (h1 : n1 ≤ 524288) (hi : i < n) :
    Calls Try.prog 3 #[.slice a0 n c0, .int .i64 i, .int .i64 y, .slice a1 n1 c1] w fun e w' => e = .returned (.bool true) ∧ Below w.heap.size w w' := by
  have W0 : Hid (IsRow .u8 w a0 n c0 z0) := w0
  have W1 : Hid (IsRow .u8 w a1 n1 c1 z1) := w1
  have hi2 : (i : Int) < (n : Int) := by omega
  clear w0 w1
  go_enter Try.func3, Try.ntmps3
  go_wp2_with fail
  refine (bytes_yes _ _ _ _ _ _ _ _ _ (by omega)).mono ?_
  rintro e wx ⟨rfl, hwx⟩
  have hwx' := hwx.symm
  subst hwx'
  clear hwx
  go_wp2_with fail
  refine (clone_any a0 n c0 z0 w W0.out (by omega)).mono ?_
  rintro e w1 ⟨ao, rfl, ow, hl0, hb1⟩
  have W2 : Hid (IsRow .u8 w1 a1 n1 c1 z1) := IsRow.kept W1.out hb1
  obtain ⟨Bk, rfl, hlo, hhi, hcl⟩ := ow (by rw [hl0.out]; omega)
  generalize z0.take n = t at *
  have HB1 : Hid (Below w.heap.size w w1) := hb1
  have HC1 : Hid (Cells w1 Bk t) := hcl
  clear W0 W1 ow hb1 hcl
  go_wp2_with fail
  refine (clone_any a1 n1 c1 z1 w1 W2.out (by omega)).mono ?_
  rintro e w2 ⟨ao2, rfl, ow2, hl2, hb2⟩
  have HC2 : Hid (Cells w2 Bk t) := HC1.out.kept hb2 hhi
  have HB2 : Hid (Below w.heap.size w w2) := HB1.out.trans (hb2.mono HB1.out.size)
  have hhi2 : Bk < w2.heap.size := Nat.lt_of_lt_of_le hhi hb2.size
  have hsz2 : w.heap.size ≤ w2.heap.size := HB2.out.size
  clear W2 ow2 hl2 hb2 HC1 HB1
  go_wp2_with fail
  refine (zzNumber Bk n i t y ao2 n1 w2 hl0.out (by omega) hi HC2.out hhi2).mono ?_
  rintro e w3 ⟨⟨r, k, rfl, hd⟩, hb3⟩
  have HD : Hid (Done t i r k) := hd
  have HC3 : Hid (Cells w3 Bk t) := HC2.out.kept hb3 hhi2
  have HB3 : Hid (Below w.heap.size w w3) := HB2.out.trans (hb3.mono hsz2)
  clear hd hb3 HC2 HB2
  go_wp2_with fail
  refine (model Bk n n i t w3 hl0.out (by omega) hi HC3.out).mono ?_
  rintro e wx ⟨⟨r2, k2, rfl, hd2⟩, hwx⟩
  have hwx' := hwx.symm
  subst hwx'
  clear hwx
  obtain ⟨rfl, rfl⟩ := done_one hd2 HD.out
  clear hd2 HD
  go_wp2_with fail
  go_ret
  exact ⟨rfl, HB3.out⟩

theorem law (a0 a1 : Option Addr) (n c0 n1 c1 : Nat) (z0 z1 : List Int) (x y : Int) (w : World) (w0 : IsRow .u8 w a0 n c0 z0) (w1 : IsRow .u8 w a1 n1 c1 z1) :
    Calls Try.prog 3 #[.slice a0 n c0, .int .i64 x, .int .i64 y, .slice a1 n1 c1] w fun e w' => e = .returned (.bool true) ∧ Below w.heap.size w w' := by
  by_cases h : 1048576 < n + n1 ∨ 524288 < n ∨ 524288 < n1 ∨ x < 0 ∨ (n : Int) ≤ x
  · exact early a0 a1 n c0 n1 c1 x y w w0.len w1.len h
  · obtain ⟨i, rfl⟩ : ∃ i : Nat, x = (i : Int) := ⟨x.toNat, by omega⟩
    exact main a0 a1 n c0 n1 c1 z0 z1 i y w w0 w1 (by omega) (by omega) (by omega)
end Go.Proofs.Qxb6605418a.NumLaw
