/-
  Steps of a region that draws its order: a call of ZZMakeReloc (4), of ZZRelocSection (7), ZZRelocIndex (8); an append onto a row of the call's own.
-/
import Derived.Test.Qxb6003830aDoorSmall2
import Derived.Maps.AppendAt
import Derived.Deep.RegionLaw
namespace Go.Proofs.Qxb6003830aDoor.Steps
open Go.RowKit Go.Proofs.Qxb6003830aDoor.Small2
set_option linter.unusedVariables false

theorem step_make {ops : Array Oper} {o : Oper} {a : Act} {w : World} {K : Act → World → Prop} {Q : Exit → Act → World → Prop} {E : Prop}
    (hg : o.guard = none) (s x : Nat) (hop : o.op = Op.call { callee := Callee.value (Operand.func 4), args := #[.tmp s, .tmp x], argTypes := #[25, 25] }) (u v : Int) (hs : a.eval (.tmp s) = .int .u64 u) (hx : a.eval (.tmp x) = .int .u64 v)
    (hK : K (a.put o.dst (.agg #[.int .u64 u, .int .u64 v])) (w.alloc (.cells #[.int .u64 u, .int .u64 v] 27))) :
    if Region.wanted o (yielded ops a.tmps) = true then Oper.wp Tryd.prog o a w K Q else E := by
  have hw : Region.wanted o (yielded ops a.tmps) = true := by simp [Region.wanted, hg]
  rw [if_pos hw]
  unfold Oper.wp
  simp only [execOp, hop]
  have hs' : a.tmps[s]?.getD undef = .int .u64 u := by simpa [Act.eval] using hs
  have hx' : a.tmps[x]?.getD undef = .int .u64 v := by simpa [Act.eval] using hx
  go_simp
  refine (makeReloc u v w).mono ?_
  rintro e w' ⟨rfl, rfl⟩
  exact hK

theorem step_section {ops : Array Oper} {o : Oper} {a : Act} {w : World} {K : Act → World → Prop} {Q : Exit → Act → World → Prop} {E : Prop}
    (hw : Region.wanted o (yielded ops a.tmps) = true) (s : Nat) (hop : o.op = Op.call { callee := Callee.value (Operand.func 7), args := #[.tmp s], argTypes := #[27] }) (u v : Int) (hs : a.eval (.tmp s) = .agg #[.int .u64 u, .int .u64 v])
    (hK : K (a.put o.dst (.int .u64 u)) (w.alloc (.cells #[.int .u64 u, .int .u64 v] 27))) :
    if Region.wanted o (yielded ops a.tmps) = true then Oper.wp Tryd.prog o a w K Q else E := by
  rw [if_pos hw]
  unfold Oper.wp
  simp only [execOp, hop]
  have hs' : a.tmps[s]?.getD undef = .agg #[.int .u64 u, .int .u64 v] := by simpa [Act.eval] using hs
  go_simp
  refine (section_ u v w).mono ?_
  rintro e w' ⟨rfl, rfl⟩
  exact hK

theorem step_index {ops : Array Oper} {o : Oper} {a : Act} {w : World} {K : Act → World → Prop} {Q : Exit → Act → World → Prop} {E : Prop}
    (hw : Region.wanted o (yielded ops a.tmps) = true) (s : Nat) (hop : o.op = Op.call { callee := Callee.value (Operand.func 8), args := #[.tmp s], argTypes := #[27] }) (u v : Int) (hs : a.eval (.tmp s) = .agg #[.int .u64 u, .int .u64 v])
    (hK : K (a.put o.dst (.int .u64 v)) (w.alloc (.cells #[.int .u64 u, .int .u64 v] 27))) :
    if Region.wanted o (yielded ops a.tmps) = true then Oper.wp Tryd.prog o a w K Q else E := by
  rw [if_pos hw]
  unfold Oper.wp
  simp only [execOp, hop]
  have hs' : a.tmps[s]?.getD undef = .agg #[.int .u64 u, .int .u64 v] := by simpa [Act.eval] using hs
  go_simp
  refine (index u v w).mono ?_
  rintro e w' ⟨rfl, rfl⟩
  exact hK

theorem step_append {P : Program} {ops : Array Oper} {o : Oper} {a : Act} {w : World} {K : Act → World → Prop} {Q : Exit → Act → World → Prop} {E : Prop} (hgd : o.guard = none) (s x : Operand) (t : TypeId)
    (ho : o.op = .call { callee := .builtin .append, args := #[s, x], argTypes := #[t, t] })
    (base : Nat) (e : TypeId) (i : TypeInfo) (z : Value) (size bytes : Nat) (ht : P.underlying t = some (.slice e)) (hi : P.info? e = some i) (hz : i.zero = some z)
    (hsize : i.size = size) (hby : i.bytes = bytes) (hzs : z.cells.size = size) (hsz : 0 < size)
    (v : Value) (n : Nat) (xs : List Value) (hs : a.eval s = v) (hown : w.ownsRow base e size v n xs)
    (ad : Addr) (m c : Nat) (news : List Value) (hx : a.eval x = .slice (some ad) m c) (hl : news.length = m * size) (hnews : ∀ j u, news[j]? = some u → w.cell? (ad.add j) = some u) (h1 : ∀ u ∈ news, u.oneCell' = true)
    (h63 : n + m ≤ maxLen) (hbytes : (n + m) * bytes ≤ 140737488355328) (hbase : base ≤ w.heap.size)
    (h : ∀ v' w', w'.ownsRow base e size v' (n + m) (xs ++ news) → w.grownBy w' v.ownBlock → K (a.put o.dst v') w') :
    if Region.wanted o (yielded ops a.tmps) = true then Oper.wp P o a w K Q else E := by
  have hw : Region.wanted o (yielded ops a.tmps) = true := by simp [Region.wanted, hgd]
  rw [if_pos hw]
  obtain ⟨v', w', hr, h2, h3, h4, h5⟩ := run_append_own_at (P := P) w base t o.type e i z size bytes ht hi hz hsize hby hzs hsz v n xs hown ad m c news hl hnews h1 h63 hbytes hbase
  unfold Oper.wp execOp
  simp only [ho, resolve, invoke, builtin, Sem.run_bind, Sem.run_pure, Result.andThen_ok, List.map_toArray, List.map_cons, List.map_nil, hs, hx, hr]
  exact h v' w' h2 h3
end Go.Proofs.Qxb6003830aDoor.Steps
