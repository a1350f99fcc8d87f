/-
  Function 3 behind the reading, from a frame of letters on: the compare loop.
-/
import Derived.Test.Qxb6003830aDoorRest
import Derived.Deep.RegionHeld3
namespace Go.Proofs.Qxb6003830aDoor.Tail
open Go.RowKit Go.Proofs.Qxb6003830aDoor.Plain Go.Proofs.Qxb6003830aDoor.Uvarint Go.Proofs.Qxb6003830aDoor.Read Go.Proofs.Qxb6003830aDoor.Small Go.Proofs.Qxb6003830aDoor.Small2 Go.Proofs.Qxb6003830aDoor.Append Go.Proofs.Qxb6003830aDoor.Steps Go.Proofs.Qxb6003830aDoor.Base
set_option linter.unusedVariables false

set_option maxHeartbeats 4000000 in
set_option maxRecDepth 1000000 in
theorem compare (base ge cape : Nat) (l : List UInt8) (ps : List (Nat × Nat)) (ea : Addr) (W : World) (ok : Nat → Prop) (a1 : Option Addr) (n1 c1 : Nat) (tl : List UInt8) (vd : Value) (a0 : Option Addr) (n0 c0 : Nat) (ar : Option Addr) (cr : Nat) (c2 c3 c4 c5 c6 c7 c8 c9 c10 c12 c13 c16 c17 c18 c19 c20 c21 c22 c23 c24 c25 c26 c27 c28 c29 c30 c31 c32 c33 c34 c35 c36 c37 c38 c39 c40 c41 c42 c43 c44 c45 c46 c47 c48 c49 c50 c51 c52 c53 c54 c55 c56 c57 c58 c59 c60 c61 c62 c63 c64 c65 c66 c67 c68 c69 c70 c71 c72 c73 c74 c75 c76 c77 c78 c79 c80 c81 c82 c83 c84 c85 c86 c87 c88 c89 c90 c91 c92 c93 c94 c95 c96 c97 c98 c99 c100 c101 c102 c103 c104 c105 c106 c107 c108 c109 c110 c111 c112 c113 c114 c115 c116 c117 c118 c119 c120 c121 c122 c123 c124 c125 c126 c127 c128 c129 c130 c131 c132 c133 c134 c135 c136 c137 c138 c139 c140 c141 c142 c143 c144 c145 c146 c147 c148 c149 c150 c151 c152 c153 c154 c155 c156 c157 c158 c159 c160 c161 c162 c163 c164 c165 c166 c167 c168 c169 c170 c171 c172 c173 c174 c175 c176 c177 c178 : Value) (Q : Exit → Act → World → Prop) (hlt : l = encT ps) (hps : ps.length ≤ 256) (hsm : ∀ q ∈ ps, q.1 < 2 ^ 64 ∧ q.2 < 2 ^ 64)
    (hown : W.ownsRow base 5 1 (.slice (some ⟨ge, 0, none⟩) l.length cape) l.length (Lib.byteCells l)) (hll : l.length ≤ 5130) (hg : W.cell? ⟨0, 0, none⟩ = some (.iface 61 (.pointer (some ea)))) (hge : ge < W.heap.size) (hcl : l.length ≤ cape)
    (hbs : BS W ok vd tl) (hokb : ∀ g, ok g → g < W.heap.size) (htl : IsBytes W a1 n1 c1 tl) (hn1 : n1 ≤ 1048576) (htab : IsTab W a0 n0 c0 ps) (hn0 : n0 ≤ 256)
    (hrv : ∀ j, j < n0 → ∃ g, ar = some ⟨g, 0, none⟩ ∧ g < W.heap.size ∧ W.cell? ⟨g, j * 2, none⟩ = some (.int .u64 ((ps.getD j (0, 0)).1 : Nat)) ∧ W.cell? ⟨g, j * 2 + 1, none⟩ = some (.int .u64 ((ps.getD j (0, 0)).2 : Nat))) (hret : Back W Q) :
    Code.wp Tryd.prog (code 12) Q ⟨#[.slice a0 n0 c0, .slice a1 n1 c1, c2, c3, c4, c5, c6, c7, c8, c9, c10, .slice (some ⟨ge, 0, none⟩) l.length cape, c12, c13, .slice ar n0 cr, vd, c16, c17, c18, c19, c20, c21, c22, c23, c24, c25, c26, c27, c28, c29, c30, c31, c32, c33, c34, c35, c36, c37, c38, c39, c40, c41, c42, c43, c44, c45, c46, c47, c48, c49, c50, c51, c52, c53, c54, c55, c56, c57, c58, c59, c60, c61, c62, c63, c64, c65, c66, c67, c68, c69, c70, c71, c72, c73, c74, c75, c76, c77, c78, c79, c80, c81, c82, c83, c84, c85, c86, c87, c88, c89, c90, c91, c92, c93, c94, c95, c96, c97, c98, c99, c100, c101, c102, c103, c104, c105, c106, c107, c108, c109, c110, c111, c112, c113, c114, c115, c116, c117, c118, c119, c120, c121, c122, c123, c124, c125, c126, c127, c128, c129, c130, c131, c132, c133, c134, c135, c136, c137, c138, c139, c140, c141, c142, c143, c144, c145, c146, c147, c148, c149, c150, c151, c152, c153, c154, c155, c156, c157, c158, c159, c160, c161, c162, c163, c164, c165, c166, c167, c168, c169, c170, c171, c172, c173, c174, c175, c176, c177, c178], []⟩ W := by
  have HLT : Hid (l = encT ps) := hlt
  have HSM : Hid (∀ q ∈ ps, q.1 < 2 ^ 64 ∧ q.2 < 2 ^ 64) := hsm
  have HOW : Hid (W.ownsRow base 5 1 (.slice (some ⟨ge, 0, none⟩) l.length cape) l.length (Lib.byteCells l)) := hown
  have HG : Hid (W.cell? ⟨0, 0, none⟩ = some (.iface 61 (.pointer (some ea)))) := hg
  have HR : Hid (Back W Q) := hret
  have HBS : Hid (BS W ok vd tl) := hbs
  have HOK : Hid (∀ g, ok g → g < W.heap.size) := hokb
  have HT : Hid (IsBytes W a1 n1 c1 tl) := htl
  have H0 : Hid (IsTab W a0 n0 c0 ps) := htab
  have HRV : Hid (∀ j, j < n0 → ∃ g, ar = some ⟨g, 0, none⟩ ∧ g < W.heap.size ∧ W.cell? ⟨g, j * 2, none⟩ = some (.int .u64 ((ps.getD j (0, 0)).1 : Nat)) ∧ W.cell? ⟨g, j * 2 + 1, none⟩ = some (.int .u64 ((ps.getD j (0, 0)).2 : Nat))) := hrv
  clear hlt hsm hown hg hret hbs hokb htl htab hrv
  rw [show code 12 = .seq (stmt 12) (code 13) from rfl]
  refine wp_seq_k fun K hK => ?_
  have HK : Hid (∀ a w, Code.wp Tryd.prog (code 13) Q a w → K a w) := hK
  clear hK
  conv => arg 2; whnf
  go_wp2_with fail
  go_loopw [129] (fun d wq => ∃ j : Nat, j ≤ n0 ∧ d = .int .i64 j ∧ Hid (Below W.heap.size W wq)) (fun d _ => n0 - (intOf d).toNat)
  case atStart => exact ⟨0, by omega, rfl, Below.refl _ _⟩
  case round =>
    obtain ⟨j, hj, rfl, hBq⟩ := hrel
    by_cases hlt : j < n0
    · have hlt2 : (j : Int) < (n0 : Int) := by omega
      have hj0 : (0 : Int) ≤ (j : Int) := by omega
      rcases IsTab.kept H0.out hBq.out with ⟨_, hz, _⟩ | ⟨x, rfl, _, _, _, hcell, _⟩
      · omega
      obtain ⟨t1, t2⟩ := hcell j hlt
      obtain ⟨gr, rfl, hgr, r1, r2⟩ := HRV.out j hlt
      have r1' : wr.cell? ⟨gr, j * 2, none⟩ = some (.int .u64 ((ps.getD j (0, 0)).1 : Nat)) := by rw [hBq.out.cell (by exact hgr)]; exact r1
      have r2' : wr.cell? ⟨gr, j * 2 + 1, none⟩ = some (.int .u64 ((ps.getD j (0, 0)).2 : Nat)) := by rw [hBq.out.cell (by exact hgr)]; exact r2
      have t2' : wr.cell? ⟨(x.add (j * 2)).block, (x.add (j * 2)).off + 1, none⟩ = some (.int .u64 ((ps.getD j (0, 0)).2 : Nat)) := by rw [← at1, Addr.add_add]; exact t2
      clear hcell r1 r2 t2
      generalize ((ps.getD j (0, 0)).1 : Nat) = u at *
      generalize ((ps.getD j (0, 0)).2 : Nat) = v at *
      have hsz := hBq.out.size
      go_upto_region 28 with fail
      go_region_held3 (fun w' => w'.cell? (x.add (j * 2)) = some (.int .u64 (u : Int)) ∧ w'.cell? ⟨(x.add (j * 2)).block, (x.add (j * 2)).off + 1, none⟩ = some (.int .u64 (v : Int)) ∧ w'.cell? ⟨gr, j * 2, none⟩ = some (.int .u64 (u : Int)) ∧ w'.cell? ⟨gr, j * 2 + 1, none⟩ = some (.int .u64 (v : Int)))
        (first | go_keep | (refine ⟨alloc_cell ?_ _, alloc_cell ?_ _, alloc_cell ?_ _, alloc_cell ?_ _⟩ <;> first | assumption | simp [*]))
        (first | (go_at_call 7; refine (section_ u v _).mono ?_; rintro e w' ⟨rfl, rfl⟩) | (go_at_call 8; refine (index u v _).mono ?_; rintro e w' ⟨rfl, rfl⟩))
      go_wp2_with fail
      go_roundw
      case rel => exact ⟨j + 1, by omega, by go_num, (Below.drew ((hBq.out.alloc hsz _).alloc (by simp; omega) _) : Below _ _ _)⟩
      case measure => simp [intOf]; omega
    · have HG2 : Hid (wr.cell? ⟨0, 0, none⟩ = some (.iface 61 (.pointer (some ea)))) := show _ = _ by
        rw [hBq.out.cell (World.block_lt_of_cell? W _ HG.out)]
        exact HG.out
      have HOW2 : Hid (wr.ownsRow base 5 1 (.slice (some ⟨ge, 0, none⟩) l.length cape) l.length (Lib.byteCells l)) := own_below HOW.out hBq.out
      have hge2 : ge < wr.heap.size := Nat.lt_of_lt_of_le hge hBq.out.size
      have HBS2 : Hid (BS wr ok vd tl) := HBS.out.kept fun g hg o u hu => by
        rw [hBq.out.cell (by exact HOK.out g hg)]
        exact hu
      have HT2 : Hid (IsBytes wr a1 n1 c1 tl) := HT.out.kept hBq.out
      go_wp2_with fail
      refine HK.out _ _ ?_
      exact rest_ base ge cape l ps ea wr ok a1 n1 c1 tl vd _ _ _ _ _ _ _ _ _ _ _ _ _ _ _ _ _ _ _ _ _ _ _ _ _ _ _ _ _ _ _ _ _ _ _ _ _ _ _ _ _ _ _ _ _ _ _ _ _ _ _ _ _ _ _ _ _ _ _ _ _ _ _ _ _ _ _ _ _ _ _ _ _ _ _ _ _ _ _ _ _ _ _ _ _ _ _ _ _ _ _ _ _ _ _ _ _ _ _ _ _ _ _ _ _ _ _ _ _ _ _ _ _ _ _ _ _ _ _ _ _ _ _ _ _ _ _ _ _ _ _ _ _ _ _ _ _ _ _ _ _ _ _ _ _ _ _ _ _ _ _ _ _ _ _ _ _ _ _ _ _ _ _ _ _ _ _ _ _ _ _ _ _ _ _ _ Q HLT.out hps HSM.out HOW2.out hll HG2.out hge2 hcl HBS2.out HT2.out hn1 (HR.out.from hBq.out)
end Go.Proofs.Qxb6003830aDoor.Tail
