/-
  Function 3 behind the compare loop, from a frame of letters on: the rest is the tail.
-/
import Derived.Test.Qxb6003830aDoorPrefixes
namespace Go.Proofs.Qxb6003830aDoor.Tail
open Go.RowKit Go.Proofs.Qxb6003830aDoor.Plain Go.Proofs.Qxb6003830aDoor.Uvarint Go.Proofs.Qxb6003830aDoor.Read Go.Proofs.Qxb6003830aDoor.Small Go.Proofs.Qxb6003830aDoor.Small2 Go.Proofs.Qxb6003830aDoor.Append Go.Proofs.Qxb6003830aDoor.Steps Go.Proofs.Qxb6003830aDoor.Base
set_option linter.unusedVariables false

theorem Below.drewN {B : Nat} {a w : World} (h : Below B a w) (m : Nat) : Below B a (w.drewN m) := ⟨h.os, h.tape, h.output, h.size, h.block⟩
theorem Back.from {W w : World} {Q : Exit → Act → World → Prop} (h : Back W Q) (hb : Below W.heap.size W w) : Back w Q := by
  unfold Back at h ⊢
  intros
  apply h
  exact hb.trans (Below.mono (by assumption) hb.size)

set_option maxHeartbeats 4000000 in
set_option maxRecDepth 1000000 in
theorem rest_ (base ge cape : Nat) (l : List UInt8) (ps : List (Nat × Nat)) (ea : Addr) (W : World) (ok : Nat → Prop) (a1 : Option Addr) (n1 c1 : Nat) (tl : List UInt8) (vd : Value) (c0 c2 c3 c4 c5 c6 c7 c8 c9 c10 c12 c13 c14 c16 c17 c18 c19 c20 c21 c22 c23 c24 c25 c26 c27 c28 c29 c30 c31 c32 c33 c34 c35 c36 c37 c38 c39 c40 c41 c42 c43 c44 c45 c46 c47 c48 c49 c50 c51 c52 c53 c54 c55 c56 c57 c58 c59 c60 c61 c62 c63 c64 c65 c66 c67 c68 c69 c70 c71 c72 c73 c74 c75 c76 c77 c78 c79 c80 c81 c82 c83 c84 c85 c86 c87 c88 c89 c90 c91 c92 c93 c94 c95 c96 c97 c98 c99 c100 c101 c102 c103 c104 c105 c106 c107 c108 c109 c110 c111 c112 c113 c114 c115 c116 c117 c118 c119 c120 c121 c122 c123 c124 c125 c126 c127 c128 c129 c130 c131 c132 c133 c134 c135 c136 c137 c138 c139 c140 c141 c142 c143 c144 c145 c146 c147 c148 c149 c150 c151 c152 c153 c154 c155 c156 c157 c158 c159 c160 c161 c162 c163 c164 c165 c166 c167 c168 c169 c170 c171 c172 c173 c174 c175 c176 c177 c178 : Value) (Q : Exit → Act → World → Prop) (hlt : l = encT ps) (hps : ps.length ≤ 256) (hsm : ∀ q ∈ ps, q.1 < 2 ^ 64 ∧ q.2 < 2 ^ 64)
    (hown : W.ownsRow base 5 1 (.slice (some ⟨ge, 0, none⟩) l.length cape) l.length (Lib.byteCells l)) (hll : l.length ≤ 5130) (hg : W.cell? ⟨0, 0, none⟩ = some (.iface 61 (.pointer (some ea)))) (hge : ge < W.heap.size) (hcl : l.length ≤ cape)
    (hbs : BS W ok vd tl) (htl : IsBytes W a1 n1 c1 tl) (hn1 : n1 ≤ 1048576) (hret : Back W Q) :
    Code.wp Tryd.prog (code 13) Q ⟨#[c0, .slice a1 n1 c1, c2, c3, c4, c5, c6, c7, c8, c9, c10, .slice (some ⟨ge, 0, none⟩) l.length cape, c12, c13, c14, vd, c16, c17, c18, c19, c20, c21, c22, c23, c24, c25, c26, c27, c28, c29, c30, c31, c32, c33, c34, c35, c36, c37, c38, c39, c40, c41, c42, c43, c44, c45, c46, c47, c48, c49, c50, c51, c52, c53, c54, c55, c56, c57, c58, c59, c60, c61, c62, c63, c64, c65, c66, c67, c68, c69, c70, c71, c72, c73, c74, c75, c76, c77, c78, c79, c80, c81, c82, c83, c84, c85, c86, c87, c88, c89, c90, c91, c92, c93, c94, c95, c96, c97, c98, c99, c100, c101, c102, c103, c104, c105, c106, c107, c108, c109, c110, c111, c112, c113, c114, c115, c116, c117, c118, c119, c120, c121, c122, c123, c124, c125, c126, c127, c128, c129, c130, c131, c132, c133, c134, c135, c136, c137, c138, c139, c140, c141, c142, c143, c144, c145, c146, c147, c148, c149, c150, c151, c152, c153, c154, c155, c156, c157, c158, c159, c160, c161, c162, c163, c164, c165, c166, c167, c168, c169, c170, c171, c172, c173, c174, c175, c176, c177, c178], []⟩ W := by
  have HLT : Hid (l = encT ps) := hlt
  have HSM : Hid (∀ q ∈ ps, q.1 < 2 ^ 64 ∧ q.2 < 2 ^ 64) := hsm
  have HOW : Hid (W.ownsRow base 5 1 (.slice (some ⟨ge, 0, none⟩) l.length cape) l.length (Lib.byteCells l)) := hown
  have HG : Hid (W.cell? ⟨0, 0, none⟩ = some (.iface 61 (.pointer (some ea)))) := hg
  have HR : Hid (Back W Q) := hret
  obtain ⟨g, o, c, rfl, b1, b2, _, b3⟩ := hbs
  have heq : Hid (Calls Tryd.prog 9 #[.slice (some ⟨g, o, none⟩) tl.length c, .slice a1 n1 c1] W fun e w' => e = .returned (.bool true) ∧ ∃ m, w' = W.drewN m) := by
    rcases htl with ⟨rfl, rfl, rfl, rfl⟩ | ⟨x, rfl, t1, t2, rfl, t4⟩
    · exact equal_zero _ _ _ _ W
    · refine equal_some ⟨g, o, none⟩ x tl.length c c1 (fun j => ((tl.getD j 0).toNat : Int)) W (by omega) (fun j hj => ?_) (fun j hj => ?_)
      · rw [Addr.add_lit, b3 j hj, List.getD_eq_getElem?_getD, List.getElem?_eq_getElem hj]
        rfl
      · rw [t4 j hj, List.getD_eq_getElem?_getD, List.getElem?_eq_getElem hj]
        rfl
  clear hlt hsm hown hg hret b3 htl b1 b2
  generalize tl.length = n at *
  rw [show code 13 = .seq (stmt 13) (code 14) from rfl]
  refine wp_seq_k fun K hK => ?_
  have HK : Hid (∀ a w, Code.wp Tryd.prog (code 14) Q a w → K a w) := hK
  clear hK
  conv => arg 2; whnf
  go_wp2_with fail
  refine heq.out.mono ?_
  rintro e w2 ⟨rfl, m, hw2⟩
  have HB2 : Hid (Below W.heap.size W w2) := by rw [hw2]; exact Below.drewN (Below.refl _ _) m
  have HG2 : Hid (w2.cell? ⟨0, 0, none⟩ = some (.iface 61 (.pointer (some ea)))) := by rw [hw2]; exact HG.out
  have HOW2 : Hid (w2.ownsRow base 5 1 (.slice (some ⟨ge, 0, none⟩) l.length cape) l.length (Lib.byteCells l)) := own_below HOW.out HB2.out
  have hge2 : ge < w2.heap.size := Nat.lt_of_lt_of_le hge HB2.out.size
  clear hw2 heq
  go_wp2_with fail
  refine HK.out _ _ ?_
  exact prefixes base ge cape l ps ea w2 _ _ _ _ _ _ _ _ _ _ _ _ _ _ _ _ _ _ _ _ _ _ _ _ _ _ _ _ _ _ _ _ _ _ _ _ _ _ _ _ _ _ _ _ _ _ _ _ _ _ _ _ _ _ _ _ _ _ _ _ _ _ _ _ _ _ _ _ _ _ _ _ _ _ _ _ _ _ _ _ _ _ _ _ _ _ _ _ _ _ _ _ _ _ _ _ _ _ _ _ _ _ _ _ _ _ _ _ _ _ _ _ _ _ _ _ _ _ _ _ _ _ _ _ _ _ _ _ _ _ _ _ _ _ _ _ _ _ _ _ _ _ _ _ _ _ _ _ _ _ _ _ _ _ _ _ _ _ _ _ _ _ _ _ _ _ _ _ _ _ _ _ _ _ _ _ _ _ Q HLT.out hps HSM.out HOW2.out hll HG2.out hge2 hcl (HR.out.from HB2.out)
end Go.Proofs.Qxb6003830aDoor.Tail
