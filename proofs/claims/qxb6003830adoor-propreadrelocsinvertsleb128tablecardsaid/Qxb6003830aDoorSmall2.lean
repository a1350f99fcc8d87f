/-
  ZZMakeReloc (4), ZZRelocSection (7), ZZRelocIndex (8), zzEqual (9).
-/
import Derived.Test.Qxb6003830aDoorUvarint
import Derived.Laws.Rows
namespace Go.Proofs.Qxb6003830aDoor.Small2
open Go.RowKit Go.Proofs.Qxb6003830aDoor.Uvarint
set_option linter.unusedVariables false

set_option maxHeartbeats 1000000 in
theorem makeReloc (x y : Int) (w : World) : Calls Tryd.prog 4 #[.int .u64 x, .int .u64 y] w fun e w' => e = .returned (.agg #[.int .u64 x, .int .u64 y]) ∧ w' = w.alloc (.cells #[.int .u64 x, .int .u64 y] 27) := by
  go_enter Tryd.func4, Tryd.ntmps4
  go_wp2
  exact bodyPost_ret (results_cell_row rfl _ _ w.heap.size 27 _ (0, 0) _ rfl (heap_alloc_new w _) Tryd.underlying27 rfl (by kernel_rfl)) rfl ⟨rfl, rfl⟩

set_option maxHeartbeats 1000000 in
theorem section_ (x y : Int) (w : World) : Calls Tryd.prog 7 #[.agg #[.int .u64 x, .int .u64 y]] w fun e w' => e = .returned (.int .u64 x) ∧ w' = w.alloc (.cells #[.int .u64 x, .int .u64 y] 27) := by
  go_enter Tryd.func7, Tryd.ntmps7
  go_wp2
  go_ret
  exact ⟨rfl, rfl⟩

set_option maxHeartbeats 1000000 in
theorem index (x y : Int) (w : World) : Calls Tryd.prog 8 #[.agg #[.int .u64 x, .int .u64 y]] w fun e w' => e = .returned (.int .u64 y) ∧ w' = w.alloc (.cells #[.int .u64 x, .int .u64 y] 27) := by
  go_enter Tryd.func8, Tryd.ntmps8
  go_wp2
  go_ret
  exact ⟨rfl, rfl⟩

theorem more {w wr : World} (h : Hid (∃ m, wr = w.drewN m)) (n : Nat) : Hid (∃ m, wr.drewN n = w.drewN m) := by
  obtain ⟨m, rfl⟩ := h.out
  exact (⟨m + n, World.drewN_drewN _ _ _⟩ : ∃ m', (w.drewN m).drewN n = w.drewN m')

set_option maxHeartbeats 2000000 in
/-- zzEqual of two rows of the same bytes. -/
theorem equal_some (xa xb : Addr) (n ca cb : Nat) (g : Nat → Int) (w : World) (hn : n ≤ 140737488355328) (ha : ∀ j, j < n → w.cell? (xa.add j) = some (.int .u8 (g j))) (hb : ∀ j, j < n → w.cell? (xb.add j) = some (.int .u8 (g j))) :
    Calls Tryd.prog 9 #[.slice (some xa) n ca, .slice (some xb) n cb] w fun e w' => e = .returned (.bool true) ∧ ∃ m, w' = w.drewN m := by
  have HA : Hid (∀ j, j < n → w.cell? (xa.add j) = some (.int .u8 (g j))) := ha
  have HB : Hid (∀ j, j < n → w.cell? (xb.add j) = some (.int .u8 (g j))) := hb
  clear ha hb
  go_enter Tryd.func9, Tryd.ntmps9
  go_wp2_with fail
  go_loopw [5] (fun d wr => ∃ k : Nat, k ≤ n ∧ d = .int .i64 k ∧ Hid (∃ m, wr = w.drewN m)) (fun d _ => n - (intOf d).toNat)
  case atStart => exact ⟨0, Nat.zero_le _, rfl, (⟨0, rfl⟩ : ∃ m, w = w.drewN m)⟩
  case round =>
    obtain ⟨k, hk, rfl, hm⟩ := hrel
    by_cases hlt : k < n
    · have h1 : wr.cell? (xa.add k) = some (.int .u8 (g k)) := by
        obtain ⟨m, rfl⟩ := hm.out
        exact HA.out k hlt
      have h2 : wr.cell? (xb.add k) = some (.int .u8 (g k)) := by
        obtain ⟨m, rfl⟩ := hm.out
        exact HB.out k hlt
      have hlt2 : (k : Int) < (n : Int) := by omega
      generalize g k = v at *
      go_wp2_with fail
      go_quiet (fail)
      go_wp2
      go_roundw
      case rel => exact ⟨k + 1, by omega, by go_num, more hm _⟩
      case measure => simp [intOf]; omega
    · go_wp2_with fail
      go_ret
      exact ⟨rfl, hm.out⟩

set_option maxHeartbeats 1000000 in
theorem equal_zero (a b : Option Addr) (ca cb : Nat) (w : World) : Calls Tryd.prog 9 #[.slice a 0 ca, .slice b 0 cb] w fun e w' => e = .returned (.bool true) ∧ ∃ m, w' = w.drewN m := by
  go_enter Tryd.func9, Tryd.ntmps9
  go_wp2_with fail
  go_loopw [5] (fun d wr => d = .int .i64 0 ∧ wr = w) (fun _ _ => 0)
  case atStart => exact ⟨rfl, rfl⟩
  case round =>
    obtain ⟨rfl, hwr⟩ := hrel
    have hwr' := hwr.symm
    subst hwr'
    clear hwr
    go_wp2_with fail
    go_ret
    exact ⟨rfl, 0, rfl⟩
end Go.Proofs.Qxb6003830aDoor.Small2
