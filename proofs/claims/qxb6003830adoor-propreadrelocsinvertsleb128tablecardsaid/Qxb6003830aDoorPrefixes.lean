/-
  Function 3 behind the reading, from a frame of letters on: the loop over the prefixes.
-/
import Derived.Test.Qxb6003830aDoorBase
namespace Go.Proofs.Qxb6003830aDoor.Tail
open Go.RowKit Go.Proofs.Qxb6003830aDoor.Plain Go.Proofs.Qxb6003830aDoor.Uvarint Go.Proofs.Qxb6003830aDoor.Read Go.Proofs.Qxb6003830aDoor.Small Go.Proofs.Qxb6003830aDoor.Small2 Go.Proofs.Qxb6003830aDoor.Append Go.Proofs.Qxb6003830aDoor.Steps Go.Proofs.Qxb6003830aDoor.Base
set_option linter.unusedVariables false

/-- the n-th statement and all behind it. -/
def from_ : Nat → Code → Code
  | 0, c => c
  | n + 1, .seq _ b => from_ n b
  | _ + 1, c => c
noncomputable def code (n : Nat) : Code := from_ n ((Tryd.f3.body).getD .skip)
def head_ : Code → Code
  | .seq a _ => a
  | c => c
/-- the n-th statement. -/
noncomputable def stmt (n : Nat) : Code := head_ (code n)

set_option maxRecDepth 1000000 in
/-- what the return gives on: true in the result's slot, whatever lies in the others. -/
def Back (W : World) (Q : Exit → Act → World → Prop) : Prop :=
  ∀ (v0 v1 v2 v3 v4 v5 v6 v7 v9 v10 v11 v12 v13 v14 v15 v16 v17 v18 v19 v20 v21 v22 v23 v24 v25 v26 v27 v28 v29 v30 v31 v32 v33 v34 v35 v36 v37 v38 v39 v40 v41 v42 v43 v44 v45 v46 v47 v48 v49 v50 v51 v52 v53 v54 v55 v56 v57 v58 v59 v60 v61 v62 v63 v64 v65 v66 v67 v68 v69 v70 v71 v72 v73 v74 v75 v76 v77 v78 v79 v80 v81 v82 v83 v84 v85 v86 v87 v88 v89 v90 v91 v92 v93 v94 v95 v96 v97 v98 v99 v100 v101 v102 v103 v104 v105 v106 v107 v108 v109 v110 v111 v112 v113 v114 v115 v116 v117 v118 v119 v120 v121 v122 v123 v124 v125 v126 v127 v128 v129 v130 v131 v132 v133 v134 v135 v136 v137 v138 v139 v140 v141 v142 v143 v144 v145 v146 v147 v148 v149 v150 v151 v152 v153 v154 v155 v156 v157 v158 v159 v160 v161 v162 v163 v164 v165 v166 v167 v168 v169 v170 v171 v172 v173 v174 v175 v176 v177 v178 : Value) (wx : World), Below W.heap.size W wx → Q .ret ⟨#[v0, v1, v2, v3, v4, v5, v6, v7, .bool true, v9, v10, v11, v12, v13, v14, v15, v16, v17, v18, v19, v20, v21, v22, v23, v24, v25, v26, v27, v28, v29, v30, v31, v32, v33, v34, v35, v36, v37, v38, v39, v40, v41, v42, v43, v44, v45, v46, v47, v48, v49, v50, v51, v52, v53, v54, v55, v56, v57, v58, v59, v60, v61, v62, v63, v64, v65, v66, v67, v68, v69, v70, v71, v72, v73, v74, v75, v76, v77, v78, v79, v80, v81, v82, v83, v84, v85, v86, v87, v88, v89, v90, v91, v92, v93, v94, v95, v96, v97, v98, v99, v100, v101, v102, v103, v104, v105, v106, v107, v108, v109, v110, v111, v112, v113, v114, v115, v116, v117, v118, v119, v120, v121, v122, v123, v124, v125, v126, v127, v128, v129, v130, v131, v132, v133, v134, v135, v136, v137, v138, v139, v140, v141, v142, v143, v144, v145, v146, v147, v148, v149, v150, v151, v152, v153, v154, v155, v156, v157, v158, v159, v160, v161, v162, v163, v164, v165, v166, v167, v168, v169, v170, v171, v172, v173, v174, v175, v176, v177, v178], []⟩ wx

theorem nopre {ps : List (Nat × Nat)} {k : Nat} (hl : ps.length ≤ 256) (h : ∀ q ∈ ps, q.1 < 2 ^ 64 ∧ q.2 < 2 ^ 64) (hk : k < (encT ps).length) : rdTab ((encT ps).take k) = none ∧ ∀ c r, rd1 ((encT ps).take k) = some (c, r) → c ≤ 256 := by
  refine ⟨rdTab_part ps k (by omega) h hk, fun c r hc => ?_⟩
  unfold encT at hc
  by_cases h1 : k < (Lib.uvarint ps.length).length
  · rw [List.take_append_of_le_length (by omega), rd1_part _ (by omega) _ h1] at hc
    cases hc
  · rw [List.take_append, List.take_of_length_le (by omega), rd1_enc _ (by omega)] at hc
    simp only [Option.some.injEq, Prod.mk.injEq] at hc
    omega

theorem bs_take {w : World} {base F c n : Nat} {ok : Nat → Prop} {l : List UInt8} (h : w.ownsRow base 5 1 (.slice (some ⟨F, 0, none⟩) l.length c) l.length (Lib.byteCells l)) (hn : n ≤ l.length) (hc : n ≤ 140737488355328) (hok : ok F) : BS w ok (.slice (some ⟨F, 0, none⟩) n n) (l.take n) := by
  have hln : (l.take n).length = n := by rw [List.length_take]; omega
  refine ⟨F, 0, n, by rw [hln], by omega, hc, hok, fun j hj => ?_⟩
  have hjl : j < l.length := by omega
  have := h.cells (g := F) rfl j (.int .u8 (l[j]).toNat) (by simp [Lib.byteCells, List.getElem?_eq_getElem hjl])
  rw [Nat.zero_add]
  rw [Addr.add_lit, Nat.zero_add] at this
  rw [List.getElem_take]
  exact this

set_option maxHeartbeats 4000000 in
set_option maxRecDepth 1000000 in
theorem prefixes (base ge cape : Nat) (l : List UInt8) (ps : List (Nat × Nat)) (ea : Addr) (W : World) (c0 c1 c2 c3 c4 c5 c6 c7 c8 c9 c10 c12 c13 c14 c15 c16 c17 c18 c19 c20 c21 c22 c23 c24 c25 c26 c27 c28 c29 c30 c31 c32 c33 c34 c35 c36 c37 c38 c39 c40 c41 c42 c43 c44 c45 c46 c47 c48 c49 c50 c51 c52 c53 c54 c55 c56 c57 c58 c59 c60 c61 c62 c63 c64 c65 c66 c67 c68 c69 c70 c71 c72 c73 c74 c75 c76 c77 c78 c79 c80 c81 c82 c83 c84 c85 c86 c87 c88 c89 c90 c91 c92 c93 c94 c95 c96 c97 c98 c99 c100 c101 c102 c103 c104 c105 c106 c107 c108 c109 c110 c111 c112 c113 c114 c115 c116 c117 c118 c119 c120 c121 c122 c123 c124 c125 c126 c127 c128 c129 c130 c131 c132 c133 c134 c135 c136 c137 c138 c139 c140 c141 c142 c143 c144 c145 c146 c147 c148 c149 c150 c151 c152 c153 c154 c155 c156 c157 c158 c159 c160 c161 c162 c163 c164 c165 c166 c167 c168 c169 c170 c171 c172 c173 c174 c175 c176 c177 c178 : Value) (Q : Exit → Act → World → Prop) (hlt : l = encT ps) (hps : ps.length ≤ 256) (hsm : ∀ q ∈ ps, q.1 < 2 ^ 64 ∧ q.2 < 2 ^ 64)
    (hown : W.ownsRow base 5 1 (.slice (some ⟨ge, 0, none⟩) l.length cape) l.length (Lib.byteCells l)) (hll : l.length ≤ 5130) (hg : W.cell? ⟨0, 0, none⟩ = some (.iface 61 (.pointer (some ea)))) (hge : ge < W.heap.size) (hcl : l.length ≤ cape) (hret : Back W Q) :
    Code.wp Tryd.prog (code 14) Q ⟨#[c0, c1, c2, c3, c4, c5, c6, c7, c8, c9, c10, .slice (some ⟨ge, 0, none⟩) l.length cape, c12, c13, c14, c15, c16, c17, c18, c19, c20, c21, c22, c23, c24, c25, c26, c27, c28, c29, c30, c31, c32, c33, c34, c35, c36, c37, c38, c39, c40, c41, c42, c43, c44, c45, c46, c47, c48, c49, c50, c51, c52, c53, c54, c55, c56, c57, c58, c59, c60, c61, c62, c63, c64, c65, c66, c67, c68, c69, c70, c71, c72, c73, c74, c75, c76, c77, c78, c79, c80, c81, c82, c83, c84, c85, c86, c87, c88, c89, c90, c91, c92, c93, c94, c95, c96, c97, c98, c99, c100, c101, c102, c103, c104, c105, c106, c107, c108, c109, c110, c111, c112, c113, c114, c115, c116, c117, c118, c119, c120, c121, c122, c123, c124, c125, c126, c127, c128, c129, c130, c131, c132, c133, c134, c135, c136, c137, c138, c139, c140, c141, c142, c143, c144, c145, c146, c147, c148, c149, c150, c151, c152, c153, c154, c155, c156, c157, c158, c159, c160, c161, c162, c163, c164, c165, c166, c167, c168, c169, c170, c171, c172, c173, c174, c175, c176, c177, c178], []⟩ W := by
  have HLT : Hid (l = encT ps) := hlt
  have HSM : Hid (∀ q ∈ ps, q.1 < 2 ^ 64 ∧ q.2 < 2 ^ 64) := hsm
  have HOW : Hid (W.ownsRow base 5 1 (.slice (some ⟨ge, 0, none⟩) l.length cape) l.length (Lib.byteCells l)) := hown
  have HG : Hid (W.cell? ⟨0, 0, none⟩ = some (.iface 61 (.pointer (some ea)))) := hg
  have HR : Hid (Back W Q) := hret
  clear hlt hsm hown hg hret
  conv => arg 2; whnf
  go_wp2_with fail
  go_loopw [18] (fun d wq => ∃ k : Nat, k ≤ l.length ∧ d = .int .i64 k ∧ Hid (Below W.heap.size W wq)) (fun d _ => l.length - (intOf d).toNat)
  case atStart => exact ⟨0, by omega, rfl, Below.refl _ _⟩
  case round =>
    obtain ⟨k, hk, rfl, hB⟩ := hrel
    by_cases hlt : k < l.length
    · have hlt2 : (k : Int) < (l.length : Int) := by omega
      have hkc : (k : Int) ≤ (cape : Int) := by omega
      have hkc2 : k ≤ cape := by omega
      have hk0 : (0 : Int) ≤ (k : Int) := by omega
      obtain ⟨n1, n2⟩ := nopre (ps := ps) (k := k) hps HSM.out (by rw [← HLT.out]; exact hlt)
      rw [← HLT.out] at n1 n2
      have N1 : Hid (rdTab (l.take k) = none) := n1
      have N2 : Hid (∀ c r, rd1 (l.take k) = some (c, r) → c ≤ 256) := n2
      have HGr : Hid (wr.cell? ⟨0, 0, none⟩ = some (.iface 61 (.pointer (some ea)))) := show _ = _ by
        rw [hB.out.cell (World.block_lt_of_cell? W _ HG.out)]
        exact HG.out
      have HOr : Hid (wr.ownsRow base 5 1 (.slice (some ⟨ge, 0, none⟩) l.length cape) l.length (Lib.byteCells l)) := own_below HOW.out hB.out
      clear n1 n2
      go_wp2_with fail
      refine (zzRead 0 0 (.slice none 0 0) _ [] ea (l.take k) wr ⟨rfl, .inl ⟨rfl, rfl⟩⟩ (Nat.zero_le _) HGr.out (by intro e; cases e) (bs_take HOr.out (by omega) (by omega) ⟨Nat.lt_of_lt_of_le hge hB.out.size, by intro e; cases e⟩) N2.out).mono ?_
      rintro e w2 ⟨hgr, hor⟩
      have HB2 : Hid (Below W.heap.size W w2) := hB.out.grown hgr hB.out.size (by intro q e; cases e)
      rcases hor with ⟨_, rfl⟩ | ⟨ps', r', rv, vd, hps', _⟩
      · have HG2 : Hid (w2.cell? ⟨0, 0, none⟩ = some (.iface 61 (.pointer (some ea)))) := show _ = _ by
          rw [HB2.out.cell (World.block_lt_of_cell? W _ HG.out)]
          exact HG.out
        clear hgr HGr HOr N1 N2 hB
        go_wp2_with fail
        refine (isMalformed ea w2 HG2.out).mono ?_
        rintro e wx ⟨rfl, hwx⟩
        have hwx' := hwx.symm
        subst hwx'
        clear hwx
        go_wp2_with fail
        go_roundw
        case rel => exact ⟨k + 1, by omega, by go_num, HB2⟩
        case measure => simp [intOf]; omega
      · have h := N1.out
        rw [hps'] at h
        cases h
    · go_wp2_with fail
      exact HR.out _ _ _ _ _ _ _ _ _ _ _ _ _ _ _ _ _ _ _ _ _ _ _ _ _ _ _ _ _ _ _ _ _ _ _ _ _ _ _ _ _ _ _ _ _ _ _ _ _ _ _ _ _ _ _ _ _ _ _ _ _ _ _ _ _ _ _ _ _ _ _ _ _ _ _ _ _ _ _ _ _ _ _ _ _ _ _ _ _ _ _ _ _ _ _ _ _ _ _ _ _ _ _ _ _ _ _ _ _ _ _ _ _ _ _ _ _ _ _ _ _ _ _ _ _ _ _ _ _ _ _ _ _ _ _ _ _ _ _ _ _ _ _ _ _ _ _ _ _ _ _ _ _ _ _ _ _ _ _ _ _ _ _ _ _ _ _ _ _ _ _ _ _ _ _ _ _ _ wr hB.out
end Go.Proofs.Qxb6003830aDoor.Tail
