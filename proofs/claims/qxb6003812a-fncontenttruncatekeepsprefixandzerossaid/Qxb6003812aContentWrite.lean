import Derived.Test.Qxb6003812aContentPlain
import Derived.Deep.CutRange
import Derived.Deep.RegionLaw
import Derived.Deep.DeepMust
namespace Go.Proofs.Qxb6003812a.ContentWrite
open Go.RowKit Go.Proofs.Qxb6003812a.ContentPage Go.Proofs.Qxb6003812a.ContentSet Go.Proofs.Qxb6003812a.ContentPlain

theorem mono {w : World} {cb cnt cnt' : Nat} {sz : Int} {r : Option Nat} {p : Pages} (h : Con w cb cnt sz r p) (hc : cnt ≤ cnt') : Con w cb cnt' sz r p := by
  refine ⟨h.blk, ?_, h.row, h.apart, h.len⟩
  rcases h.mp with hn | ⟨mb, D, h1, h2, h3, h4⟩
  · exact .inl hn
  · exact .inr ⟨mb, D, h1, h2, h3.mono hc, h4⟩

theorem info5 : (Try.prog.info? 5).map (fun i => (i.zero, i.size, i.bytes)) = some (some (.int .u8 0), 1, 1) := by kernel_rfl

/-- a content stays what it is while the row of one page is written behind that page's length, and new blocks are made. -/
theorem con_grown {w w1 : World} {cb cnt : Nat} {sz : Int} {r : Option Nat} {p : Pages} (h : Con w cb cnt sz r p) (i : Nat) (hg : w.grownBy w1 (p.val i).ownBlock)
    (hr : w1.ownsRow (cb + 1) 5 1 (p.val i) (p.pg i).length (ints (p.pg i))) : Con w1 cb cnt sz r p := by
  have hrb : ∀ k, (p.val i).ownBlock = some k → cb + 1 ≤ k := fun k hk => ((h.row i).lt k hk).1
  refine ⟨?_, ?_, ?_, h.apart, h.len⟩
  · rw [hg.block cb h.lt (fun e => by have := hrb cb e.symm; omega)]
    exact h.blk
  · rcases h.mp with hn | ⟨mb, D, h1, h2, h3, h4⟩
    · exact .inl hn
    · refine .inr ⟨mb, D, h1, h2, h3.kept hg ?_, h4⟩
      rcases row_not_map (h.row i) h3 with e | e
      · rw [e]; simp
      · exact Ne.symm e
  · intro j
    by_cases hj : j = i
    · subst hj; exact hr
    · exact (h.row j).kept hg (h.apart j i hj)

theorem ints_pad (l : List Int) (m : Nat) : ints l ++ List.replicate m (.int .u8 0) = ints (l ++ List.replicate m 0) := by
  simp [ints]

theorem setPage_len {w : World} {cb cnt : Nat} {sz : Int} {r : Option Nat} {p : Pages} (h : Con w cb cnt sz r p) (i : Nat) (hi : i ≤ 1000000) (hcnt : cnt ≤ 1000000) (a : Option Addr) (c : Nat) (l : List Int) (n : Nat) (hn : l.length = n) (hl : n ≤ 65536)
    (hrow : w.ownsRow (cb + 1) 5 1 (.slice a n c) n (ints l))
    (hap : ∀ j, j ≠ i → (p.val j).ownBlock = none ∨ (p.val j).ownBlock ≠ (Value.slice a n c).ownBlock) :
    Calls Try.prog 43 #[.pointer (some ⟨cb, 0, none⟩), .int .i64 i, .slice a n c] w fun e w' =>
      e = .returned (.tuple #[]) ∧ ∃ r', Con w' cb (cnt + 1) sz r' (p.set i a c l) ∧ Below cb w w' := by
  subst hn
  exact setPage_call h i hi hcnt a c l hl hrow hap

theorem apart_new {w : World} {cb cnt : Nat} {sz : Int} {r : Option Nat} {p : Pages} (h : Con w cb cnt sz r p) (i g n c : Nat) (hloc : (p.val i).ownBlock = some g ∨ g = w.heap.size) :
    ∀ j, j ≠ i → (p.val j).ownBlock = none ∨ (p.val j).ownBlock ≠ (Value.slice (some ⟨g, 0, none⟩) n c).ownBlock := by
  intro j hj
  rcases hloc with e | e
  · have := h.apart j i hj
    rw [e] at this
    simpa [Value.ownBlock] using this
  · have := row_lt (h.row j) (mb := g) (by omega)
    simpa [Value.ownBlock] using this

/-- the row behind a page that is not nil. -/
theorem row_open {w : World} {cb cnt : Nat} {sz : Int} {r : Option Nat} {p : Pages} (h : Con w cb cnt sz r p) (i g cap : Nat) (hv : p.val i = .slice (some ⟨g, 0, none⟩) (p.pg i).length cap) :
    ∃ cur : List Value, w.heap[g]? = some (.cells cur.toArray 5 (0, 0)) ∧ cb < g ∧ cur.length = cap ∧ (p.pg i).length ≤ cap ∧ cap ≤ maxLen ∧ cur.take (p.pg i).length = ints (p.pg i) := by
  rcases (h.row i).2 with ⟨e, _⟩ | ⟨g', cap', cur, e, hb, hg, h1, h2, h3, h4⟩
  · rw [hv] at e; simp at e
  · rw [hv] at e
    simp only [Value.slice.injEq, Option.some.injEq, Addr.mk.injEq, and_true, true_and] at e
    obtain ⟨rfl, rfl⟩ := e
    exact ⟨cur.toList, by simpa using hg, by omega, by simpa using h3, h1, h2, by simpa using h4⟩

/-- the cells of a part of a row. -/
theorem part_cells {w : World} {pb : Nat} {l : List Int} (h : w.heap[pb]? = some (.cells (ints l).toArray 5 (0, 0))) (k sp : Nat) : ∀ j v, (ints ((l.drop k).take sp))[j]? = some v → w.cell? ((⟨pb, k, none⟩ : Addr).add j) = some v := by
  intro j v hj
  have hadd : (⟨pb, k, none⟩ : Addr).add j = ⟨pb, k + j, none⟩ := by unfold Addr.add; split <;> simp_all
  rw [hadd, cell_of_row w pb (k + j) _ 5 (0, 0) h]
  simp only [ints, List.getElem?_map, List.getElem?_take, List.getElem?_drop] at hj
  split at hj
  · simpa [ints] using hj
  · cases hj

theorem ints_one (l : List Int) : ∀ v ∈ ints l, v.oneCell' = true := by
  intro v hv
  simp only [ints, List.mem_map] at hv
  obtain ⟨_, _, rfl⟩ := hv
  rfl

/-- the size is set. -/
theorem con_size {w : World} {cb cnt : Nat} {sz : Int} {r : Option Nat} {p : Pages} (h : Con w cb cnt sz r p) (sz' : Int) : Con (w.setCell ⟨cb, 0, none⟩ (.int .i64 sz')) cb cnt sz' r p := by
  refine ⟨?_, ?_, fun j => row_setCell (h.row j) (by simp) _, h.apart, h.len⟩
  · rw [heap_setCell_blk h.blk]; rfl
  · rcases h.mp with hn | ⟨mb, D, h1, h2, h3, h4⟩
    · exact .inl hn
    · exact .inr ⟨mb, D, h1, h2, h3.setCell (by simp; omega) _, h4⟩

theorem con_size_eq {w : World} {cb cnt : Nat} {sz : Int} {r : Option Nat} {p : Pages} (h : Con w cb cnt sz r p) (x y : Int) (e : y = x) : Con (w.setCell ⟨cb, 0, none⟩ (.int .i64 x)) cb cnt y r p := by
  subst e
  exact con_size h _

theorem undrew {w w' : World} {row : Option Nat} (h : w.drew.grownBy w' row) : w.grownBy w' row := ⟨h.os, h.tape, h.output, h.size, h.block⟩

theorem pad_set (p : Pages) (i n m g cap : Nat) (hm : m = n - (p.pg i).length) (hlen : (p.pg i).length < n) :
    let p2 := p.set i (some ⟨g, 0, none⟩) cap (p.pg i ++ List.replicate m 0)
    Value.slice (some ⟨g, 0, none⟩) ((p.pg i).length + m) cap = .slice (some ⟨g, 0, none⟩) (p2.pg i).length cap ∧ p2.val i = .slice (some ⟨g, 0, none⟩) (p2.pg i).length cap ∧ n ≤ (p2.pg i).length ∧ Pad p i n p2 := by
  intro p2
  have e : p2.pg i = p.pg i ++ List.replicate m 0 := p.set_pg_same _ _ _ _
  have el : (p2.pg i).length = (p.pg i).length + m := by rw [e]; simp
  refine ⟨by rw [el], ?_, by omega, ?_, fun j hj => p.set_pg_other _ _ _ _ _ hj⟩
  · rw [e]; exact p.set_val_same _ _ _ _
  · rw [e, hm]

theorem pad_same {w : World} {cb cnt : Nat} {sz : Int} {r : Option Nat} {p : Pages} (h : Con w cb cnt sz r p) (i n : Nat) (hn : 0 < n) (hlen : ¬ (p.pg i).length < n) :
    ∃ g, p.pa i = some ⟨g, 0, none⟩ ∧ Pad p i n p := by
  rcases (h.row i).2 with ⟨_, e⟩ | ⟨g, cap, cur, e, _⟩
  · omega
  · refine ⟨g, ?_, ?_, fun _ _ => rfl⟩
    · unfold Pages.val at e
      simp only [Value.slice.injEq] at e
      exact e.1
    · rw [show n - (p.pg i).length = 0 from by omega]
      simp

set_option maxHeartbeats 4000000 in
set_option maxRecDepth 100000 in
theorem writeAt_call (w : World) (cb cnt : Nat) (sz : Int) (r : Option Nat) (p : Pages) (h : Con w cb cnt sz r p) (pb n : Nat) (l : List Int) (hl : l.length = n) (hpb : pb < cb) (hsrc : w.heap[pb]? = some (.cells (ints l).toArray 5 (0, 0)))
    (off : Nat) (hn : 0 < n) (hb : off + n ≤ 1000000) (hcnt : cnt + n ≤ 1000000) :
    Calls Try.prog 35 #[.pointer (some ⟨cb, 0, none⟩), .slice (some ⟨pb, 0, none⟩) n n, .int .i64 off] w fun e w' =>
      e = .returned (.tuple #[]) ∧ ∃ r' p', Con w' cb (cnt + n) (max sz (off + n)) r' p' ∧ Wr p off l n p' ∧ Below cb w w' := by
  have HS : Hid (w.heap[pb]? = some (.cells (ints l).toArray 5 (0, 0))) := hsrc
  have HL : Hid (l.length = n) := hl
  clear hsrc hl
  go_enter Try.func35, Try.ntmps35
  go_wp2
  go_loopw [6] (fun d wr => ∃ (k : Nat) (r' : Option Nat) (p' : Pages), k ≤ n ∧ d = .int .i64 k ∧ Con wr cb (cnt + k) sz r' p' ∧ Wr p off l k p' ∧ Below cb w wr) (fun d _ => n - (intOf d).toNat)
  case atStart => exact ⟨0, r, p, Nat.zero_le _, rfl, h, Wr.start p off l, Below.refl _ _⟩
  case round =>
    obtain ⟨k, r', p', hk, rfl, hc, hw, hbel⟩ := hrel
    by_cases hlt : k < n
    · go_upto_region 4 with fail
      go_cut [7, 8, 9, 10] from 12 to 63 (fun s7 s8 s9 s10 wx => ∃ i a sp : Nat, i = (off + k) / 65536 ∧ a = (off + k) % 65536 ∧ sp = min (n - k) (65536 - a) ∧ s7 = .int .i64 ((off + k : Nat) : Int) ∧ s8 = .int .i64 (i : Int) ∧ s9 = .int .i64 (a : Int) ∧ s10 = .int .i64 (sp : Int) ∧ wx = wr)
      case first =>
        go_wp2
        all_goals
          go_meet
          case rel => exact ⟨(off + k) / 65536, (off + k) % 65536, min (n - k) (65536 - (off + k) % 65536), rfl, rfl, rfl, by go_num, by go_num, by go_num, by go_num, rfl⟩
      case rest =>
        obtain ⟨i, a, sp, hi, ha, hsp, rfl, rfl, rfl, rfl, rfl⟩ := hcut
        have HI : Hid (i = (off + k) / 65536) := hi
        have HA : Hid (a = (off + k) % 65536) := ha
        have HSP : Hid (sp = min (n - k) (65536 - a)) := hsp
        have ha1 : a < 65536 := by omega
        have hi1 : i ≤ 1000000 := by omega
        have hsp1 : 0 < sp := by omega
        have hsp2 : a + sp ≤ 65536 := by omega
        have hsp3 : k + sp ≤ n := by omega
        clear hi ha hsp
        go_wp2_with fail
        refine (page_call hc i hi1).mono ?_
        rintro e w1 ⟨rfl, hw1⟩
        have hw2 := hw1.symm
        subst hw2
        clear hw1
        go_upto_if 38 with fail
        go_cut [11] from 12 to 63 (fun s11 wx => ∃ (g cap : Nat) (r2 : Option Nat) (p2 : Pages), s11 = .slice (some ⟨g, 0, none⟩) (p2.pg i).length cap ∧ p2.val i = .slice (some ⟨g, 0, none⟩) (p2.pg i).length cap ∧ Con wx cb (cnt + k + 1) sz r2 p2 ∧ a + sp ≤ (p2.pg i).length ∧ Pad p' i (a + sp) p2 ∧ Below cb w wx)
        case first =>
          by_cases hlen : (p'.pg i).length < a + sp
          · have hsz1 := hc.lt
            obtain ⟨i0, ei, ez, e1, e2⟩ := info_parts info5
            obtain ⟨m, hm⟩ : ∃ m : Nat, m = a + sp - (p'.pg i).length := ⟨_, rfl⟩
            have HM : Hid (m = a + sp - (p'.pg i).length) := hm
            have hm0 : 0 < m := by omega
            have hm1 : (p'.pg i).length + m ≤ 65536 := by omega
            clear hm
            go_wp2_with (at_builtin; go_must (refine BuiltinLaws.wpList_zeros_own _ rfl _ _ 39 3 rfl (cb + 1) 5 i0 (.int .u8 0) Try.underlying39 Try.underlying3 ei ez e1 e2 rfl rfl _ _ _ rfl (hc.row i) m ?hx hm0 (by omega) (by omega) ?_))
            case hx =>
              have := HM.out
              show Value.int .i64 ((a : Int) + (sp : Int) - ((p'.pg i).length : Int)) = _
              rw [show ((a : Int) + (sp : Int) - ((p'.pg i).length : Int)) = (m : Int) from by omega]
            intro g cap w1 hown1 hgr1 hloc hold
            have hc1 : Con w1 cb (cnt + k) sz r' p' := con_grown hc i hgr1 hold
            have hb1 : Below cb w w1 := hbel.grown hgr1 (by omega) (fun x hx => by have := ((hc.row i).lt x hx).1; omega)
            have hap := apart_new hc i g ((p'.pg i).length + m) cap hloc
            rw [ints_pad] at hown1
            clear hgr1 hold hloc hc hbel
            go_wp2_with fail
            refine (setPage_len hc1 i hi1 (by omega) (some ⟨g, 0, none⟩) cap (p'.pg i ++ List.replicate m 0) _ (by simp) hm1 hown1 hap).mono ?_
            rintro e w2 ⟨rfl, r2, hc2, hb2⟩
            have hps := pad_set p' i (a + sp) m g cap HM.out hlen
            have HP : Hid _ := hps
            clear hps hown1 hap hc1
            go_wp2
            go_meet
            case rel => exact ⟨g, cap, r2, _, HP.out.1, HP.out.2.1, hc2, HP.out.2.2.1, HP.out.2.2.2, hb1.trans hb2⟩
          · obtain ⟨g, hpa, hpad⟩ := pad_same hc i (a + sp) (by omega) hlen
            have HG : Hid (p'.pa i = some ⟨g, 0, none⟩) := hpa
            clear hpa
            go_wp2
            go_meet
            case rel => exact ⟨g, p'.pc i, r', p', by rw [HG.out], by unfold Pages.val; rw [HG.out], mono hc (by omega), by omega, hpad, hbel⟩
        case rest =>
          obtain ⟨g, cap, r2, p2, rfl, hval, hc2, hle, hpad, hb2⟩ := hcut
          obtain ⟨cur, hg, hcg, hcl, hlc, hcm, htk⟩ := row_open hc2 i g cap hval
          have hsr : wc.heap[pb]? = some (.cells (ints l).toArray 5 (0, 0)) := by rw [hb2.block pb hpb]; exact HS.out
          obtain ⟨cs, hcs⟩ : ∃ cs : List Value, cs = ints ((l.drop k).take sp) := ⟨_, rfl⟩
          have hcs1 : cs.length = sp := by rw [hcs]; simp [ints, HL.out]; omega
          have hsrc : ∀ j v, cs[j]? = some v → wc.cell? ((⟨pb, k, none⟩ : Addr).add j) = some v := by rw [hcs]; exact part_cells hsr k sp
          have hone : ∀ v ∈ cs, v.oneCell' = true := by rw [hcs]; exact ints_one _
          have X1 : Hid (cs.length = sp) := hcs1
          have X2 : Hid (∀ j v, cs[j]? = some v → wc.cell? ((⟨pb, k, none⟩ : Addr).add j) = some v) := hsrc
          have X3 : Hid (∀ v ∈ cs, v.oneCell' = true) := hone
          have X4 : Hid (cs = ints ((l.drop k).take sp)) := hcs
          have X5 : Hid (wc.heap[g]? = some (.cells cur.toArray 5 (0, 0))) := hg
          have X6 : Hid (cur.length = cap) := hcl
          have X7 : Hid (cur.take (p2.pg i).length = ints (p2.pg i)) := htk
          have hle' : (a : Int) + (sp : Int) ≤ ((p2.pg i).length : Int) := by omega
          clear hcs1 hsrc hone hcs hg hcl htk hsr
          generalize hL : (p2.pg i).length = L at *
          have X8 : Hid ((p2.pg i).length = L) := hL
          clear hL
          unfold maxLen at hcm
          have haL : a ≤ L := by omega
          have hca : ¬ cap = a := by omega
          have hnk : ¬ n = k := by omega
          have hks : (k : Int) + (sp : Int) ≤ (n : Int) := by omega
          have hks2 : ((k : Int) + (sp : Int)).toNat = k + sp := by omega
          have hks5 : IntKind.i64.wrap ((k : Int) + (sp : Int)) = (k : Int) + (sp : Int) := by rw [IntKind.wrap_i64]; omega
          have hks6 : (0 : Int) ≤ (k : Int) + (sp : Int) := by omega
          have hks3 : k ≤ k + sp := by omega
          have hks4 : k + sp - k = sp := by omega
          go_wp2_with fail
          have X9 : Hid (cs.length = Nat.min sp (L - a)) := show _ = _ by rw [X1.out]; show sp = min sp (L - a); omega
          have X10 : Hid (a + cs.length ≤ cur.length) := show _ ≤ _ by rw [X1.out, X6.out]; omega
          go_region_law (refine BuiltinLaws.step_copy_row rfl (.tmp 53) (.tmp 59) 39 39 rfl 5 Try.underlying39 (by kernel_rfl) ⟨pb, k, none⟩ (L - a) (cap - a) sp (n - k) g a (by simp [Act.eval, Act.put]) (by simp [Act.eval, Act.put]) cur 5 X5.out cs X9.out X2.out X10.out X3.out ?_; intro w4 hg4 hgr4)
          have hfin : Con w4 cb (cnt + (k + sp)) sz r2 (p2.set i (p2.pa i) (p2.pc i) (splice (p2.pg i) a ((l.drop k).take sp))) ∧ Wr p off l (k + sp) (p2.set i (p2.pa i) (p2.pc i) (splice (p2.pg i) a ((l.drop k).take sp))) ∧ Below cb w w4 := by
            have hll := HL.out
            have hsl : ((l.drop k).take sp).length = sp := by simp; omega
            have h8 := X8.out
            refine ⟨mono (con_copied hc2 i g cap a (by rw [h8]; exact hval) cur X6.out (by rw [h8]; exact X7.out) _ (by rw [hsl, h8]; exact hle) (by rw [h8]; exact hlc) (by unfold maxLen; exact hcm) hcg (by rw [← X4.out]; exact hg4.out) (undrew hgr4.out)) (by omega),
              hw.round hpad HI.out HA.out hsp2 hsp1 (by omega) (p2.set_pg_same _ _ _ _) (fun j hj => p2.set_pg_other _ _ _ _ _ hj), hb2.grown (w' := w4) (row := some g) (undrew hgr4.out) (by have := hc2.lt; omega) (fun x hx => by simp at hx; omega)⟩
          have HF : Hid _ := hfin
          clear hfin hg4 hgr4 X1 X2 X3 X4 X5 X6 X7 X8 X9 X10 hc hc2 hw hpad hbel hb2 hval
          go_wp2
          go_roundw
          case rel => exact ⟨k + sp, r2, _, by omega, by go_num, HF.out.1, HF.out.2.1, HF.out.2.2⟩
          case measure => simp [intOf]; omega
    · have hkn : k = n := by omega
      subst hkn
      have c0 := hc.c0
      have f0 := hc.free 0
      go_wp2
      all_goals
        go_end0
        exact ⟨rfl, r', p', con_size_eq hc _ _ (by omega), hw, hbel.setCell (p := ⟨cb, 0, none⟩) (Nat.le_refl cb) _⟩

set_option maxHeartbeats 1000000 in
set_option maxRecDepth 100000 in
/-- writeAt of nothing. -/
theorem writeAt_nothing (w : World) (cb cnt : Nat) (sz : Int) (r : Option Nat) (p : Pages) (hcon : Con w cb cnt sz r p) (pa : Option Addr) (c : Nat) (off : Nat) (hb : off ≤ 1000000) :
    Calls Try.prog 35 #[.pointer (some ⟨cb, 0, none⟩), .slice pa 0 c, .int .i64 off] w fun e w' =>
      e = .returned (.tuple #[]) ∧ Con w' cb cnt (max sz off) r p ∧ Below cb w w' := by
  have c0 := hcon.c0
  have f0 := hcon.free 0
  go_enter Try.func35, Try.ntmps35
  go_wp2
  refine wp_loop_rounds 1 ?_
  rw [rounds_succ]
  go_wp2
  all_goals
    go_end0
    exact ⟨rfl, con_size_eq hcon _ _ (by omega), (Below.refl cb w).setCell (p := ⟨cb, 0, none⟩) (Nat.le_refl cb) _⟩

/-- ZZWriteAt of something. -/
theorem zzWrite (w : World) (cb cnt : Nat) (sz : Int) (r : Option Nat) (p : Pages) (h : Con w cb cnt sz r p) (pb n : Nat) (l : List Int) (hl : l.length = n) (hpb : pb < cb) (hsrc : w.heap[pb]? = some (.cells (ints l).toArray 5 (0, 0)))
    (off : Nat) (hn : 0 < n) (hb : off + n ≤ 1000000) (hcnt : cnt + n ≤ 1000000) :
    Calls Try.prog 21 #[.pointer (some ⟨cb, 0, none⟩), .slice (some ⟨pb, 0, none⟩) n n, .int .i64 off] w fun e w' =>
      e = .returned (.tuple #[]) ∧ ∃ r' p', Con w' cb (cnt + n) (max sz (off + n)) r' p' ∧ Wr p off l n p' ∧ Below cb w w' := by
  go_enter Try.func21, Try.ntmps21
  go_wp2_with fail
  refine (writeAt_call w cb cnt sz r p h pb n l hl hpb hsrc off hn hb hcnt).mono ?_
  rintro e w1 ⟨rfl, r', p', hc, hw, hb1⟩
  go_wp2
  go_end0
  exact ⟨rfl, r', p', hc, hw, hb1⟩

theorem zzWrite_nothing (w : World) (cb cnt : Nat) (sz : Int) (r : Option Nat) (p : Pages) (h : Con w cb cnt sz r p) (pa : Option Addr) (c : Nat) (off : Nat) (hb : off ≤ 1000000) :
    Calls Try.prog 21 #[.pointer (some ⟨cb, 0, none⟩), .slice pa 0 c, .int .i64 off] w fun e w' =>
      e = .returned (.tuple #[]) ∧ Con w' cb cnt (max sz off) r p ∧ Below cb w w' := by
  go_enter Try.func21, Try.ntmps21
  go_wp2_with fail
  refine (writeAt_nothing w cb cnt sz r p h pa c off hb).mono ?_
  rintro e w1 ⟨rfl, hc, hb1⟩
  go_wp2
  go_end0
  exact ⟨rfl, hc, hb1⟩
end Go.Proofs.Qxb6003812a.ContentWrite
