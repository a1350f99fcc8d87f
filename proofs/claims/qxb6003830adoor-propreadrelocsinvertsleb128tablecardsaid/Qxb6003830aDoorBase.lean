/-
  What came in, and rows of the call's own: facts for the walk of function 3.
-/
import Derived.Test.Qxb6003830aDoorRead
import Derived.Test.Qxb6003830aDoorAppend
import Derived.Test.Qxb6003830aDoorSteps
import Derived.Lib.SliceRun
import Derived.DataElems
import Derived.Lib.BufferWrite
namespace Go.Proofs.Qxb6003830aDoor.Base
open Go.RowKit Go.Proofs.Qxb6003830aDoor.Plain Go.Proofs.Qxb6003830aDoor.Uvarint Go.Proofs.Qxb6003830aDoor.Read Go.Proofs.Qxb6003830aDoor.Small Go.Proofs.Qxb6003830aDoor.Small2 Go.Proofs.Qxb6003830aDoor.Append Go.Proofs.Qxb6003830aDoor.Steps
set_option linter.unusedVariables false

/-- a slice of pairs that came in. -/
def IsTab (w : World) (a : Option Addr) (len cap : Nat) (ps : List (Nat × Nat)) : Prop :=
  (a = none ∧ len = 0 ∧ cap = 0 ∧ ps = []) ∨
  ∃ x, a = some x ∧ len ≤ cap ∧ cap ≤ maxLen ∧ ps.length = len ∧ (∀ i, i < len → w.cell? (x.add (i * 2)) = some (.int .u64 ((ps.getD i (0, 0)).1 : Nat)) ∧ w.cell? (x.add (i * 2 + 1)) = some (.int .u64 ((ps.getD i (0, 0)).2 : Nat))) ∧ ∀ q ∈ ps, q.1 < 2 ^ 64 ∧ q.2 < 2 ^ 64

/-- a slice of bytes that came in. -/
def IsBytes (w : World) (a : Option Addr) (len cap : Nat) (l : List UInt8) : Prop :=
  (a = none ∧ len = 0 ∧ cap = 0 ∧ l = []) ∨
  ∃ x, a = some x ∧ len ≤ cap ∧ cap ≤ maxLen ∧ l.length = len ∧ ∀ i (hi : i < l.length), w.cell? (x.add i) = some (.int .u8 (l[i]).toNat)

theorem IsTab.kept {w w' : World} {a : Option Addr} {len cap : Nat} {ps : List (Nat × Nat)} (h : IsTab w a len cap ps) (hb : Below w.heap.size w w') : IsTab w' a len cap ps := by
  rcases h with hn | ⟨x, h1, h2, h3, h4, h5, h6⟩
  · exact .inl hn
  · refine .inr ⟨x, h1, h2, h3, h4, fun i hi => ?_, h6⟩
    obtain ⟨k1, k2⟩ := h5 i hi
    rw [hb.cell (World.block_lt_of_cell? w _ k1), hb.cell (World.block_lt_of_cell? w _ k2)]
    exact ⟨k1, k2⟩
theorem IsBytes.kept {w w' : World} {a : Option Addr} {len cap : Nat} {l : List UInt8} (h : IsBytes w a len cap l) (hb : Below w.heap.size w w') : IsBytes w' a len cap l := by
  rcases h with hn | ⟨x, h1, h2, h3, h4, h5⟩
  · exact .inl hn
  · refine .inr ⟨x, h1, h2, h3, h4, fun i hi => ?_⟩
    rw [hb.cell (World.block_lt_of_cell? w _ (h5 i hi))]
    exact h5 i hi

theorem IsBytes.length {w : World} {a : Option Addr} {len cap : Nat} {l : List UInt8} (h : IsBytes w a len cap l) : l.length = len := by
  rcases h with ⟨_, rfl, _, rfl⟩ | ⟨x, _, _, _, h4, _⟩
  · rfl
  · exact h4
theorem IsBytes.none {w : World} {a : Option Addr} {len cap : Nat} {l : List UInt8} (h : IsBytes w a len cap l) : a = none → len = 0 ∧ cap = 0 := by
  intro e
  rcases h with ⟨_, h2, h3, _⟩ | ⟨x, h1, _⟩
  · exact ⟨h2, h3⟩
  · rw [e] at h1; cases h1
theorem IsBytes.cells {w : World} {a : Option Addr} {len cap : Nat} {l : List UInt8} (h : IsBytes w a len cap l) : ∀ ad, a = some ad → ∀ j u, (Lib.byteCells l)[j]? = some u → w.cell? (ad.add j) = some u := by
  intro ad e j u hj
  rcases h with ⟨h1, _⟩ | ⟨x, h1, _, _, _, h5⟩
  · rw [e] at h1; cases h1
  · rw [e] at h1
    obtain rfl := Option.some.inj h1
    have hjl : j < l.length := by
      have := (List.getElem?_eq_some_iff.1 hj).1
      simpa [Lib.byteCells] using this
    rw [h5 j hjl]
    simpa [Lib.byteCells, List.getElem?_eq_getElem hjl] using hj
theorem IsTab.small {w : World} {a : Option Addr} {len cap : Nat} {ps : List (Nat × Nat)} (h : IsTab w a len cap ps) : ∀ q ∈ ps, q.1 < 2 ^ 64 ∧ q.2 < 2 ^ 64 := by
  rcases h with ⟨_, _, _, rfl⟩ | ⟨x, _, _, _, _, _, h6⟩
  · intro q hq; cases hq
  · exact h6
theorem own_below {w w' : World} {base e size n : Nat} {v : Value} {xs : List Value} (h : w.ownsRow base e size v n xs) (hb : Below w.heap.size w w') : w'.ownsRow base e size v n xs :=
  h.kept (row := none) ⟨hb.os, hb.tape, hb.output, hb.size, fun k hk _ => hb.block k hk⟩ (by cases v.ownBlock <;> simp)
theorem bs_own {w : World} {base F n c : Nat} {ok : Nat → Prop} {cs : List Value} {l : List UInt8} (h : w.ownsRow base 5 1 (.slice (some ⟨F, 0, none⟩) n c) n cs) (hcs : Lib.byteCells l = cs) (hl : l.length = n) (hc : c ≤ 140737488355328) (hok : ok F) : BS w ok (.slice (some ⟨F, 0, none⟩) n c) l := by
  subst hl hcs
  have hle : l.length ≤ c := by
    rcases h.2 with ⟨e, _⟩ | ⟨g, cap, cur, e, _, _, h3, _⟩
    · cases e
    · simp only [Value.slice.injEq] at e
      omega
  refine ⟨F, 0, c, rfl, hle, hc, hok, fun j hj => ?_⟩
  have := h.cells (g := F) rfl j (.int .u8 (l[j]).toNat) (by simp [Lib.byteCells, List.getElem?_eq_getElem hj])
  rw [Nat.zero_add]
  rw [Addr.add_lit, Nat.zero_add] at this
  exact this
theorem own_slice {w : World} {base n : Nat} {v : Value} {xs : List Value} (h : w.ownsRow base 27 2 v n xs) : ∃ ao c, v = .slice ao n c ∧ (0 < n → ∃ g, ao = some ⟨g, 0, none⟩ ∧ g < w.heap.size ∧ ∀ j u, xs[j]? = some u → w.cell? ⟨g, j, none⟩ = some u) := by
  rcases h.2 with ⟨rfl, rfl⟩ | ⟨g, cap, cur, rfl, _, h2, _⟩
  · exact ⟨_, _, rfl, fun h => absurd h (by omega)⟩
  · refine ⟨_, _, rfl, fun _ => ⟨g, rfl, (Array.getElem?_eq_some_iff.1 h2).1, fun j u hj => ?_⟩⟩
    have := h.cells (g := g) rfl j u hj
    rw [Addr.add_lit, Nat.zero_add] at this
    exact this
theorem pc_at {ps : List (Nat × Nat)} {j : Nat} (h : j < ps.length) : (pc ps)[j * 2]? = some (.int .u64 ((ps.getD j (0, 0)).1 : Nat)) ∧ (pc ps)[j * 2 + 1]? = some (.int .u64 ((ps.getD j (0, 0)).2 : Nat)) := by
  induction ps generalizing j with
  | nil => simp at h
  | cons q ps ih =>
    have e : pc (q :: ps) = .int .u64 (q.1 : Nat) :: .int .u64 (q.2 : Nat) :: pc ps := by simp [pc]
    rw [e]
    cases j with
    | zero => simp
    | succ j =>
      have := ih (j := j) (by simpa using h)
      rw [show (j + 1) * 2 = j * 2 + 1 + 1 from by omega]
      simpa using this
theorem IsTab.length {w : World} {a : Option Addr} {len cap : Nat} {ps : List (Nat × Nat)} (h : IsTab w a len cap ps) : ps.length = len := by
  rcases h with ⟨_, rfl, _, rfl⟩ | ⟨x, _, _, _, h4, _⟩
  · rfl
  · exact h4
theorem getD_mem {ps : List (Nat × Nat)} {k : Nat} (h : k < ps.length) : ps.getD k (0, 0) ∈ ps := by
  rw [List.getD_eq_getElem?_getD, List.getElem?_eq_getElem h]
  exact List.getElem_mem h
theorem encP_take {ps : List (Nat × Nat)} {k : Nat} (h : k < ps.length) : encP (ps.take (k + 1)) = encP (ps.take k) ++ (Lib.uvarint (ps.getD k (0, 0)).1 ++ Lib.uvarint (ps.getD k (0, 0)).2) := by
  unfold encP
  rw [List.take_succ_eq_append_getElem h, List.flatMap_append, List.getD_eq_getElem?_getD, List.getElem?_eq_getElem h]
  simp only [List.flatMap_cons, List.flatMap_nil, List.append_nil, Option.getD_some]
theorem alloc_cell {w : World} {a : Addr} {u : Value} (h : w.cell? a = some u) (o : Obj) : (w.alloc o).cell? a = some u := by
  rw [World.cell?_of_block (w := w) (Below.heap_alloc w o _ (World.block_lt_of_cell? w _ h))]
  exact h
theorem at1 (y : Addr) : y.add 1 = ⟨y.block, y.off + 1, none⟩ := by simp [Addr.add]
theorem cell_two_new {w : World} {p r : Value} {t : TypeId} {b : Nat} (hb : b = w.heap.size) : ∀ j u, [p, r][j]? = some u → (w.alloc (.cells #[p, r] t)).cell? ((⟨b, 0, none⟩ : Addr).add j) = some u := by
  subst hb
  intro j u hj
  match j, hj with
  | 0, hj => simp at hj; subst hj; simp [Addr.add]
  | 1, hj => simp at hj; subst hj; simp [Addr.add]
theorem two_one {k : IntKind} {p r : Int} : ∀ u ∈ [Value.int k p, Value.int k r], u.oneCell' = true := by
  intro u hu
  simp at hu
  rcases hu with rfl | rfl <;> rfl
end Go.Proofs.Qxb6003830aDoor.Base
