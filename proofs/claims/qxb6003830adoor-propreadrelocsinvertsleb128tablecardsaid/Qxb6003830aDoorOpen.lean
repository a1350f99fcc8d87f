/-
  The arguments opened: a [][2]uint64 as a table of pairs, a []byte as its bytes.
-/
import Derived.Test.Qxb6003830aDoorBase
import Derived.OpenShut
import Derived.Deep.Slices
namespace Go.Proofs.Qxb6003830aDoor.Open
open Go.ChangeShapes Go.WideShapes Go.RowKit Go.Proofs.Qxb6003830aDoor.Base
set_option linter.unusedVariables false

theorem cells29 : Tryd.prog.cellsOf 29 = 2 := by kernel_rfl
theorem cells25 : Tryd.prog.cellsOf 25 = 1 := by kernel_rfl
theorem cells5 : Tryd.prog.cellsOf 5 = 1 := by kernel_rfl

theorem u64_nat {n : Int} (h : (Lit.int .u64 n).wf = true) : ∃ k : Nat, n = k ∧ k < 2 ^ 64 := by
  simp only [Lit.wf, Bool.and_eq_true, decide_eq_true_eq, show IntKind.u64.min = 0 from rfl, show IntKind.u64.max = 18446744073709551615 from rfl] at h
  exact ⟨n.toNat, by omega, by omega⟩
theorem u8_byte {n : Int} (h : (Lit.int .u8 n).wf = true) : ∃ b : UInt8, n = b.toNat := by
  simp only [Lit.wf, Bool.and_eq_true, decide_eq_true_eq, show IntKind.u8.min = 0 from rfl, show IntKind.u8.max = 255 from rfl] at h
  refine ⟨UInt8.ofNat n.toNat, ?_⟩
  rw [UInt8.toNat_ofNat']
  omega

theorem pair {H : Type} {enc : TypeId × Value → H} {W : World} {sp : Nat → Bool} {hd : Bool} {n : Nat} {a : Addr} {cs : List Value} {x : DataW H × List MemPlace} (h1 : W.cells? 0 a 2 = some cs) (h2 : DataW.trod enc Tryd.prog W 0 sp hd n 29 cs = some x) :
    ∃ q : Nat × Nat, W.cell? a = some (.int .u64 (q.1 : Nat)) ∧ W.cell? (a.add 1) = some (.int .u64 (q.2 : Nat)) ∧ q.1 < 2 ^ 64 ∧ q.2 < 2 ^ 64 := by
  obtain ⟨_, hlen, hc⟩ := World.cells?_some h1
  obtain ⟨xs, m, _, _, _, hxl, he⟩ := DataW.trod_array Tryd.underlying29 h2
  rw [cells25] at he
  match xs, hxl with
  | [x0, x1], _ =>
    match cs, hlen with
    | [u, v], _ =>
      obtain ⟨k0, e0, _, f0⟩ := DataW.trod_int Tryd.underlying25 (show DataW.trod enc Tryd.prog W 0 sp hd m 25 [u] = some x0 from he 0 (by omega))
      obtain ⟨k1, e1, _, f1⟩ := DataW.trod_int Tryd.underlying25 (show DataW.trod enc Tryd.prog W 0 sp hd m 25 [v] = some x1 from he 1 (by omega))
      obtain ⟨p, rfl, hp⟩ := u64_nat f0
      obtain ⟨r, rfl, hr⟩ := u64_nat f1
      obtain rfl := (List.cons.inj e0).1
      obtain rfl := (List.cons.inj e1).1
      have c0 := hc 0 (by omega)
      have c1 := hc 1 (by omega)
      rw [show a.add 0 = a by simp [Addr.add]] at c0
      exact ⟨(p, r), c0, c1, hp, hr⟩

theorem open_tab {H : Type} {enc : TypeId × Value → H} {W : World} {a0 : Option Addr} {n0 c0 : Nat} {d : DataW H} {p : List MemPlace} (h : DataW.Trod enc Tryd.prog W 0 (fun _ => true) true 22 (.slice a0 n0 c0) d p) : ∃ ps, IsTab W a0 n0 c0 ps := by
  obtain ⟨fuel, hf⟩ := h
  rcases Deep.open_slice Tryd.underlying22 hf with ⟨hcs, _⟩ | ⟨a, len, cap, m, n, D, Pl, hcs, _, hl, hm, hmm, _, hel⟩
  · simp [Value.cells] at hcs
    obtain ⟨rfl, rfl, rfl⟩ := hcs
    exact ⟨[], .inl ⟨rfl, rfl, rfl, rfl⟩⟩
  · simp [Value.cells] at hcs
    obtain ⟨rfl, rfl, rfl⟩ := hcs
    have hmc : m = c0 := by simpa using hmm
    rw [cells29] at hel
    obtain ⟨Q, hQ⟩ := Deep.choose_lt (α := Nat × Nat) (n := n0) (p := fun i q => W.cell? (a.add (i * 2)) = some (.int .u64 (q.1 : Nat)) ∧ W.cell? (a.add (i * 2 + 1)) = some (.int .u64 (q.2 : Nat)) ∧ q.1 < 2 ^ 64 ∧ q.2 < 2 ^ 64) (fun i hi => by
      obtain ⟨cs', h1, h2⟩ := hel i (by omega)
      obtain ⟨q, k1, k2, k3⟩ := pair h1 h2
      rw [Addr.add_add] at k2
      exact ⟨q, k1, k2, k3⟩)
    refine ⟨(List.range n0).map Q, .inr ⟨a, rfl, hl, hm, by simp, fun i hi => ?_, fun q hq => ?_⟩⟩
    · have e : ((List.range n0).map Q).getD i (0, 0) = Q i := by simp [List.getD, hi]
      rw [e]
      exact ⟨(hQ i hi).1, (hQ i hi).2.1⟩
    · obtain ⟨i, hi, rfl⟩ := List.mem_map.1 hq
      exact (hQ i (List.mem_range.1 hi)).2.2

theorem open_bytes {H : Type} {enc : TypeId × Value → H} {W : World} {a0 : Option Addr} {n0 c0 : Nat} {d : DataW H} {p : List MemPlace} (h : DataW.Trod enc Tryd.prog W 0 (fun _ => true) true 23 (.slice a0 n0 c0) d p) : ∃ l, IsBytes W a0 n0 c0 l := by
  obtain ⟨fuel, hf⟩ := h
  rcases Deep.open_slice1 Tryd.underlying23 cells5 hf with ⟨hcs, _⟩ | ⟨a, len, cap, m, n, V, D, Pl, hcs, _, hl, hm, hmm, _, hel⟩
  · simp [Value.cells] at hcs
    obtain ⟨rfl, rfl, rfl⟩ := hcs
    exact ⟨[], .inl ⟨rfl, rfl, rfl, rfl⟩⟩
  · simp [Value.cells] at hcs
    obtain ⟨rfl, rfl, rfl⟩ := hcs
    have hmc : m = c0 := by simpa using hmm
    obtain ⟨B, hB⟩ := Deep.choose_lt (α := UInt8) (n := n0) (p := fun i b => W.cell? (a.add i) = some (.int .u8 (b.toNat : Nat))) (fun i hi => by
      obtain ⟨h1, h2⟩ := hel i (by omega)
      obtain ⟨k, e, _, f⟩ := DataW.trod_int Tryd.underlying5 h2
      obtain ⟨b, rfl⟩ := u8_byte f
      rw [(List.cons.inj e).1] at h1
      exact ⟨b, h1⟩)
    refine ⟨(List.range n0).map B, .inr ⟨a, rfl, hl, hm, by simp, fun i hi => ?_⟩⟩
    have e : ((List.range n0).map B)[i] = B i := by simp
    rw [e]
    exact hB i (by simpa using hi)
end Go.Proofs.Qxb6003830aDoor.Open
