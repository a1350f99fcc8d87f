/-
  readRelocs (11), ZZReadRelocs (6).
-/
import Derived.Test.Qxb6003830aDoorUvarint
import Derived.Maps.AppendAt
import Derived.Maps.RangeWalk
import Derived.Deep.CutBlock
import Derived.OwnWalk
namespace Go.Proofs.Qxb6003830aDoor.Read
open Go.RowKit Go.Proofs.Qxb6003830aDoor.Plain Go.Proofs.Qxb6003830aDoor.Uvarint
set_option linter.unusedVariables false

theorem info27 : (Tryd.prog.info? 27).map (fun i => (i.zero, i.size, i.bytes)) = some (some (.agg #[.int .u64 0, .int .u64 0]), 2, 16) := by kernel_rfl

/-- the cells of a row of relocs. -/
def pc (ps : List (Nat × Nat)) : List Value := ps.flatMap fun q => [.int .u64 q.1, .int .u64 q.2]
theorem pc_snoc (ps : List (Nat × Nat)) (q : Nat × Nat) : pc (ps ++ [q]) = pc ps ++ [.int .u64 q.1, .int .u64 q.2] := by simp [pc]

theorem own_cut {w : World} {base g n cap : Nat} {xs : List Value} (h : w.ownsRow base 27 2 (.slice (some ⟨g, 0, none⟩) n cap) n xs) : w.ownsRow base 27 2 (.slice (some ⟨g, 0, none⟩) 0 cap) 0 [] := by
  rcases h.2 with ⟨e, _⟩ | ⟨g', cap', cur, e, h1, h2, h3, h4, h5, h6⟩
  · cases e
  · simp only [Value.slice.injEq, Option.some.injEq, Addr.mk.injEq, and_true, true_and] at e
    obtain ⟨rfl, rfl⟩ := e
    exact ⟨rfl, .inr ⟨g, cap, cur, rfl, h1, h2, by omega, h4, h5, by simp⟩⟩

/-- the state of the reading: the boxed slice's block P = w.heap.size. -/
structure Rd (w wr : World) (X : Option Nat) (base : Nat) (rv vd : Value) (k : Nat) (xs : List Value) (l : List UInt8) : Prop where
  own : wr.ownsRow base 27 2 rv k xs
  blk : ∀ g, rv.ownBlock = some g → some g = X ∨ w.heap.size < g
  box : wr.cell? ⟨w.heap.size, 0, none⟩ = some vd
  free : wr.frozen? ⟨w.heap.size, 0, none⟩ = false
  bytes : BS wr (fun g => g < w.heap.size ∧ some g ≠ X) vd l
  grown : w.grownBy wr X
  lt : w.heap.size < wr.heap.size

/-- what the reading answers. -/
def Ans (e : Ending) (w w' : World) (X : Option Nat) (base : Nat) (E : Value) (l : List UInt8) : Prop :=
  w.grownBy w' X ∧ ((rdTab l = none ∧ e = .returned (.tuple #[.slice none 0 0, .slice none 0 0, E])) ∨
   ∃ ps r rv vd, rdTab l = some (ps, r) ∧ e = .returned (.tuple #[rv, vd, .nilIface]) ∧ w'.ownsRow base 27 2 rv ps.length (pc ps) ∧ (∀ g, rv.ownBlock = some g → some g = X ∨ w.heap.size < g) ∧ BS w' (fun g => g < w.heap.size ∧ some g ≠ X) vd r)

theorem grown_alloc (w : World) (o : Obj) (X : Option Nat) : w.grownBy (w.alloc o) X :=
  ⟨rfl, rfl, rfl, by simp, fun k hk _ => Below.heap_alloc w o k hk⟩

theorem box_new (w : World) (v : Value) (T : TypeId) : (w.alloc (.cells #[v] T)).cell? ⟨w.heap.size, 0, none⟩ = some v ∧ (w.alloc (.cells #[v] T)).frozen? ⟨w.heap.size, 0, none⟩ = false := by
  have hg : (w.alloc (Obj.cells #[v] T)).heap[w.heap.size]? = some (Obj.cells #[v] T) := (MapKept.heap_alloc w _).1
  have key : ∀ (w' : World) (b : Nat), w'.heap[b]? = some (Obj.cells #[v] T) → w'.cell? ⟨b, 0, none⟩ = some v ∧ w'.frozen? ⟨b, 0, none⟩ = false := by
    intro w' b h
    simp [World.cell?, World.frozen?, h]
  exact key _ _ hg

theorem rd_start {w : World} {X : Option Nat} {base : Nat} {rv v : Value} {l : List UInt8} (hown : w.ownsRow base 27 2 rv 0 []) (hX : rv.ownBlock = X) (hb : BS w (fun g => g < w.heap.size ∧ some g ≠ X) v l) :
    Rd w (w.alloc (.cells #[v] 23)) X base rv v 0 [] l where
  own := hown.alloc _
  blk := fun g hg => .inl (by rw [← hX, hg])
  box := (box_new w v 23).1
  free := (box_new w v 23).2
  bytes := hb.kept fun g hg o u hu => by
    rw [World.cell?_of_block (w := w)]
    · exact hu
    · exact Below.heap_alloc w _ g hg.1
  grown := grown_alloc w _ X
  lt := by simp

/-- how far the reading is: c pairs are still to come. -/
def Prog (l : List UInt8) (E s8 : Value) (c k : Nat) (xs : List Value) (l' : List UInt8) : Prop :=
  (s8 = .nilIface ∧ ∃ qs : List (Nat × Nat), k = qs.length ∧ xs = pc qs ∧ rdTab l = (rdPairs c l').map fun p => (qs ++ p.1, p.2)) ∨ (s8 = E ∧ rdTab l = none)

theorem prog_start {l : List UInt8} {E : Value} {c : Nat} {l1 : List UInt8} (h : rd1 l = some (c, l1)) : Prog l E .nilIface c 0 [] l1 := by
  refine .inl ⟨rfl, [], rfl, rfl, ?_⟩
  unfold rdTab
  rw [h]
  simp only [List.nil_append]
  cases rdPairs c l1 <;> rfl
theorem prog_none {l : List UInt8} {E : Value} (h : rd1 l = none) (c k : Nat) (xs : List Value) (l1 : List UInt8) : Prog l E E c k xs l1 := by
  refine .inr ⟨rfl, ?_⟩
  unfold rdTab
  rw [h]

theorem Rd.set {w wr : World} {X : Option Nat} {base : Nat} {rv vd vd' : Value} {k : Nat} {xs : List Value} {l l' : List UInt8} (h : Rd w wr X base rv vd k xs l) (hl : some w.heap.size ≠ X) (hb : BS wr (fun g => g < w.heap.size ∧ some g ≠ X) vd' l') :
    Rd w (wr.setCell ⟨w.heap.size, 0, none⟩ vd') X base rv vd' k xs l' where
  own := h.own.kept (row := some w.heap.size) ⟨rfl, rfl, rfl, by simp, fun q _ hne => Below.heap_setCell wr _ _ q (fun e => hne (by rw [e]))⟩ (by
    rcases hv : rv.ownBlock with _ | g
    · exact .inl rfl
    · refine .inr fun e => ?_
      have := h.blk g hv
      simp only [Option.some.injEq] at e
      subst e
      rcases this with e | e
      · exact hl e
      · omega)
  blk := h.blk
  box := World.cell?_setCell_same _ _ _ h.box
  free := by rw [World.frozen?_setCell]; exact h.free
  bytes := hb.kept fun g hg o u hu => by
    rw [World.cell?_setCell_other _ _ _ _ (by intro e; have := congrArg Addr.block e; simp only at this; omega)]
    exact hu
  grown := ⟨h.grown.os, h.grown.tape, h.grown.output, by simpa using h.grown.size, fun q hq hne => by
    rw [Below.heap_setCell wr _ _ q (by simp only; omega)]
    exact h.grown.block q hq hne⟩
  lt := by simpa using h.lt

theorem Rd.drew {w wr : World} {X : Option Nat} {base : Nat} {rv vd : Value} {k m : Nat} {xs : List Value} {l : List UInt8} (h : Rd w wr X base rv vd k xs l) : Rd w (wr.drewN m) X base rv vd k xs l :=
  ⟨h.own, h.blk, h.box, h.free, h.bytes, ⟨h.grown.os, h.grown.tape, h.grown.output, h.grown.size, h.grown.block⟩, h.lt⟩

theorem Rd.glob {w wr : World} {X : Option Nat} {base : Nat} {rv vd E : Value} {k : Nat} {xs : List Value} {l : List UInt8} (h : Rd w wr X base rv vd k xs l) (hg : w.cell? ⟨0, 0, none⟩ = some E) (h0 : some 0 ≠ X) : wr.cell? ⟨0, 0, none⟩ = some E := by
  rw [World.cell?_of_block (w := w)]
  · exact hg
  · exact h.grown.block 0 (World.block_lt_of_cell? w _ hg) h0

theorem Rd.alloc {w wr : World} {X : Option Nat} {base : Nat} {rv vd : Value} {k : Nat} {xs : List Value} {l : List UInt8} (h : Rd w wr X base rv vd k xs l) (o : Obj) : Rd w (wr.alloc o) X base rv vd k xs l where
  own := h.own.alloc o
  blk := h.blk
  box := by rw [World.cell?_of_block (w := wr) (Below.heap_alloc wr o _ h.lt)]; exact h.box
  free := by rw [World.frozen?_of_block (w := wr) (Below.heap_alloc wr o _ h.lt)]; exact h.free
  bytes := h.bytes.kept fun g hg q u hu => by
    rw [World.cell?_of_block (w := wr) (Below.heap_alloc wr o g (Nat.lt_trans hg.1 h.lt))]
    exact hu
  grown := ⟨h.grown.os, h.grown.tape, h.grown.output, by have := h.grown.size; simp; omega, fun q hq hne => by
    rw [Below.heap_alloc wr o q (Nat.lt_trans hq h.lt)]
    exact h.grown.block q hq hne⟩
  lt := by have := h.lt; simp; omega

theorem Rd.far {w wr : World} {X : Option Nat} {base : Nat} {rv vd : Value} {k : Nat} {xs : List Value} {l : List UInt8} (h : Rd w wr X base rv vd k xs l) (ad : Addr) (u : Value) (h1 : w.heap.size < ad.block) (h2 : rv.ownBlock ≠ some ad.block) :
    Rd w (wr.setCell ad u) X base rv vd k xs l where
  own := h.own.kept (row := some ad.block) ⟨rfl, rfl, rfl, by simp, fun q _ hne => Below.heap_setCell wr _ _ q (fun e => hne (by rw [e]))⟩ (.inr h2)
  blk := h.blk
  box := by rw [World.cell?_of_block (w := wr) (Below.heap_setCell wr _ _ _ (by simp only; omega))]; exact h.box
  free := by rw [World.frozen?_setCell]; exact h.free
  bytes := h.bytes.kept fun g hg q u hu => by
    rw [World.cell?_of_block (w := wr) (Below.heap_setCell wr _ _ _ (by have := hg.1; simp only; omega))]
    exact hu
  grown := ⟨h.grown.os, h.grown.tape, h.grown.output, by simpa using h.grown.size, fun q hq hne => by
    rw [Below.heap_setCell wr _ _ q (by omega)]
    exact h.grown.block q hq hne⟩
  lt := by simpa using h.lt

theorem Rd.app {w wr w' : World} {X : Option Nat} {base : Nat} {rv rv' vd : Value} {k k' : Nat} {xs xs' : List Value} {l : List UInt8} (h : Rd w wr X base rv vd k xs l) (hX : some w.heap.size ≠ X) (hg : wr.grownBy w' rv.ownBlock) (hown : w'.ownsRow base 27 2 rv' k' xs')
    (hat : rv'.ownBlock = rv.ownBlock ∨ rv'.ownBlock = some wr.heap.size) : Rd w w' X base rv' vd k' xs' l := by
  have hne : ∀ q, q ≤ w.heap.size → some q ≠ X → some q ≠ rv.ownBlock := fun q hq hqX e => by
    rcases h.blk q e.symm with h1 | h1
    · exact hqX h1
    · omega
  refine ⟨hown, fun g hgv => ?_, ?_, ?_, ?_, ?_, Nat.lt_of_lt_of_le h.lt hg.size⟩
  · rcases hat with e | e
    · exact h.blk g (by rw [← e]; exact hgv)
    · rw [e] at hgv
      have := h.lt
      simp only [Option.some.injEq] at hgv
      exact .inr (by omega)
  · rw [World.cell?_of_block (w := wr) (hg.block _ h.lt (hne _ (Nat.le_refl _) hX))]; exact h.box
  · rw [World.frozen?_of_block (w := wr) (hg.block _ h.lt (hne _ (Nat.le_refl _) hX))]; exact h.free
  · refine h.bytes.kept fun g hgo q u hu => ?_
    rw [World.cell?_of_block (w := wr) (hg.block g (Nat.lt_trans hgo.1 h.lt) (hne g (Nat.le_of_lt hgo.1) hgo.2))]
    exact hu
  · exact ⟨hg.os.trans h.grown.os, hg.tape.trans h.grown.tape, hg.output.trans h.grown.output, Nat.le_trans h.grown.size hg.size, fun q hq hqX => (hg.block q (Nat.lt_trans hq h.lt) (hne q (Nat.le_of_lt hq) hqX)).trans (h.grown.block q hq hqX)⟩

/-- the reloc under way, in a block R of its own. -/
structure RC (wr : World) (R : Nat) (s i : Nat) : Prop where
  c0 : wr.cell? ⟨R, 0, none⟩ = some (.int .u64 s)
  c1 : wr.cell? ⟨R, 1, none⟩ = some (.int .u64 i)
  f0 : wr.frozen? ⟨R, 0, none⟩ = false
  f1 : wr.frozen? ⟨R, 1, none⟩ = false

theorem rc_new (wr : World) : RC (wr.alloc (.cells #[.int .u64 0, .int .u64 0] 27)) wr.heap.size 0 0 := by
  have hg : (wr.alloc (Obj.cells #[.int .u64 0, .int .u64 0] 27)).heap[wr.heap.size]? = some (Obj.cells #[.int .u64 0, .int .u64 0] 27) := (MapKept.heap_alloc wr _).1
  have key : ∀ (w' : World) (b : Nat), w'.heap[b]? = some (Obj.cells #[.int .u64 0, .int .u64 0] 27) → RC w' b 0 0 := by
    intro w' b h
    constructor <;> simp [World.cell?, World.frozen?, h]
  exact key _ _ hg

theorem RC.far {wr : World} {R s i : Nat} (h : RC wr R s i) (ad : Addr) (u : Value) (hne : ad.block ≠ R) : RC (wr.setCell ad u) R s i where
  c0 := by rw [World.cell?_of_block (w := wr) (Below.heap_setCell wr _ _ _ (fun e => hne e.symm))]; exact h.c0
  c1 := by rw [World.cell?_of_block (w := wr) (Below.heap_setCell wr _ _ _ (fun e => hne e.symm))]; exact h.c1
  f0 := by rw [World.frozen?_setCell]; exact h.f0
  f1 := by rw [World.frozen?_setCell]; exact h.f1
theorem RC.drew {wr : World} {R s i m : Nat} (h : RC wr R s i) : RC (wr.drewN m) R s i := ⟨h.c0, h.c1, h.f0, h.f1⟩
theorem RC.set0 {wr : World} {R s i : Nat} (h : RC wr R s i) (s' : Nat) : RC (wr.setCell ⟨R, 0, none⟩ (.int .u64 s')) R s' i where
  c0 := World.cell?_setCell_same _ _ _ h.c0
  c1 := by rw [World.cell?_setCell_other _ _ _ _ (by intro e; cases e)]; exact h.c1
  f0 := by rw [World.frozen?_setCell]; exact h.f0
  f1 := by rw [World.frozen?_setCell]; exact h.f1
theorem RC.set1 {wr : World} {R s i : Nat} (h : RC wr R s i) (i' : Nat) : RC (wr.setCell ⟨R, 1, none⟩ (.int .u64 i')) R s i' where
  c0 := by rw [World.cell?_setCell_other _ _ _ _ (by intro e; cases e)]; exact h.c0
  c1 := World.cell?_setCell_same _ _ _ h.c1
  f0 := by rw [World.frozen?_setCell]; exact h.f0
  f1 := by rw [World.frozen?_setCell]; exact h.f1

theorem prog_stop {l : List UInt8} {E : Value} {k : Nat} {xs : List Value} {l' : List UInt8} (h : Prog l E .nilIface 0 k xs l') (hE : E ≠ .nilIface) : ∃ qs, rdTab l = some (qs, l') ∧ k = qs.length ∧ xs = pc qs := by
  rcases h with ⟨_, qs, h1, h2, h3⟩ | ⟨e, _⟩
  · exact ⟨qs, by rw [h3]; simp [rdPairs], h1, h2⟩
  · exact absurd e.symm hE
theorem prog_e1 {l : List UInt8} {E : Value} {c k : Nat} {xs : List Value} {l' : List UInt8} (h : Prog l E .nilIface (c + 1) k xs l') (hE : E ≠ .nilIface) (h1 : rd1 l' = none) (c' k' : Nat) (xs' : List Value) (l'' : List UInt8) : Prog l E E c' k' xs' l'' := by
  rcases h with ⟨_, qs, _, _, h3⟩ | ⟨e, _⟩
  · exact .inr ⟨rfl, by rw [h3, rdPairs, h1]; rfl⟩
  · exact absurd e.symm hE
theorem prog_e2 {l : List UInt8} {E : Value} {c k : Nat} {xs : List Value} {l' l1 : List UInt8} {s : Nat} (h : Prog l E .nilIface (c + 1) k xs l') (hE : E ≠ .nilIface) (h1 : rd1 l' = some (s, l1)) (h2 : rd1 l1 = none) (c' k' : Nat) (xs' : List Value) (l'' : List UInt8) : Prog l E E c' k' xs' l'' := by
  rcases h with ⟨_, qs, _, _, h3⟩ | ⟨e, _⟩
  · exact .inr ⟨rfl, by rw [h3, rdPairs, h1]; simp only; rw [h2]; rfl⟩
  · exact absurd e.symm hE
theorem prog_ok {l : List UInt8} {E : Value} {c k : Nat} {xs : List Value} {l' l1 l2 : List UInt8} {s i : Nat} (h : Prog l E .nilIface (c + 1) k xs l') (hE : E ≠ .nilIface) (h1 : rd1 l' = some (s, l1)) (h2 : rd1 l1 = some (i, l2)) : Prog l E .nilIface c (k + 1) (xs ++ [.int .u64 s, .int .u64 i]) l2 := by
  rcases h with ⟨_, qs, k1, k2, h3⟩ | ⟨e, _⟩
  · refine .inl ⟨rfl, qs ++ [(s, i)], by simp [k1], by rw [pc_snoc, k2], ?_⟩
    rw [h3, rdPairs, h1]
    simp only
    rw [h2]
    simp only
    cases rdPairs c l2 <;> simp
  · exact absurd e.symm hE

set_option maxHeartbeats 4000000 in
set_option maxRecDepth 100000 in
theorem read (base n : Nat) (rv v : Value) (xs : List Value) (a : Addr) (l : List UInt8) (w : World) (hown : w.ownsRow base 27 2 rv n xs) (hbase : base ≤ w.heap.size) (hg : w.cell? ⟨0, 0, none⟩ = some (.iface 61 (.pointer (some a)))) (h0 : some 0 ≠ rv.ownBlock)
    (hb : BS w (fun g => g < w.heap.size ∧ some g ≠ rv.ownBlock) v l) (hc : ∀ c r, rd1 l = some (c, r) → c ≤ 256) :
    Calls Tryd.prog 11 #[v, rv] w fun e w' => Ans e w w' rv.ownBlock base (.iface 61 (.pointer (some a))) l := by
  have HO : Hid (w.ownsRow base 27 2 rv n xs) := hown
  have HB : Hid (BS w (fun g => g < w.heap.size ∧ some g ≠ rv.ownBlock) v l) := hb
  have HC : Hid (∀ c r, rd1 l = some (c, r) → c ≤ 256) := hc
  have HG : Hid (w.cell? ⟨0, 0, none⟩ = some (.iface 61 (.pointer (some a)))) := hg
  have H0 : Hid (some 0 ≠ rv.ownBlock) := h0
  obtain ⟨gd, od, nd, cd, rfl⟩ : ∃ gd od nd cd, v = .slice (some ⟨gd, od, none⟩) nd cd := by
    obtain ⟨g, o, c, h1, _⟩ := hb
    exact ⟨g, o, _, c, h1⟩
  clear hown hb hc hg h0
  obtain ⟨X, hX⟩ : ∃ X, X = rv.ownBlock := ⟨_, rfl⟩
  rw [← hX]
  have HX : Hid (X = rv.ownBlock) := hX
  clear hX
  go_enter Tryd.func11, Tryd.ntmps11
  go_upto_region 1 with fail
  go_cut [1] from 10 to 11 (fun s1 wx => ∃ rv0, s1 = rv0 ∧ Hid (Rd w wx X base rv0 (.slice (some ⟨gd, od, none⟩) nd cd) 0 [] l))
  case first =>
    rcases HO.out.2 with ⟨rfl, hz⟩ | ⟨g, cap, cur, rfl, h1, h2, h3, h4, h5, h6⟩
    · subst hz
      have HS : Hid (Rd w (w.alloc (.cells #[.slice (some ⟨gd, od, none⟩) nd cd] 23)) X base (.slice none 0 0) (.slice (some ⟨gd, od, none⟩) nd cd) 0 [] l) := rd_start ⟨rfl, .inl ⟨rfl, rfl⟩⟩ HX.out.symm (by rw [HX.out]; exact HB.out)
      go_wp2_with fail
      go_meet
      case rel => exact ⟨_, rfl, HS⟩
    · have HS : Hid (Rd w (w.alloc (.cells #[.slice (some ⟨gd, od, none⟩) nd cd] 23)) X base (.slice (some ⟨g, 0, none⟩) 0 cap) (.slice (some ⟨gd, od, none⟩) nd cd) 0 [] l) := rd_start (own_cut HO.out) HX.out.symm (by rw [HX.out]; exact HB.out)
      clear h2 h5 h6
      unfold maxLen at h4
      go_wp2_with fail
      go_meet
      case rel => exact ⟨_, rfl, HS⟩
  case rest =>
    obtain ⟨rv0, hrv, hR⟩ := hcut
    have hrv2 := hrv.symm
    subst hrv2
    clear hrv
    have HXp : Hid (some w.heap.size ≠ X) := show _ ≠ _ from fun e => by
      have := HO.out.lt w.heap.size (by rw [← HX.out, ← e])
      omega
    clear HO HB
    have HX0 : Hid (some 0 ≠ X) := by rw [HX.out]; exact H0.out
    clear HX H0
    generalize (.slice (some ⟨gd, od, none⟩) nd cd : Value) = v at *
    go_upto_region 2 with fail
    go_cut [7, 8] from 12 to 15 (fun s7 s8 wx => ∃ (c : Nat) (vd : Value) (l' : List UInt8), c ≤ 256 ∧ s7 = .int .u64 c ∧ Hid (Rd w wx X base rv0 vd 0 [] l') ∧ Hid (Prog l (.iface 61 (.pointer (some a))) s8 c 0 [] l'))
    case first =>
      rcases hr : rd1 l with _ | ⟨c, l1⟩
      · have HP := fun c k xs l1 => prog_none (E := .iface 61 (.pointer (some a))) hr c k xs l1
        go_wp2_with fail
        refine (uvarint_no w.heap.size _ v _ l wc hR.out.box hR.out.bytes (hR.out.glob HG.out HX0.out) hr).mono ?_
        rintro e w2 ⟨rfl, m, rfl⟩
        go_wp2_with fail
        go_meet
        case rel => exact ⟨0, v, l, by omega, rfl, hR.out.drew, HP _ _ _ _⟩
      · have hc256 := HC.out c l1 hr
        go_wp2_with fail
        refine (uvarint_yes w.heap.size _ v l l1 c wc hR.out.box hR.out.free hR.out.bytes hr).mono ?_
        rintro e w2 ⟨v', rfl, hb2, rfl⟩
        have HR2 : Hid (Rd w (wc.setCell ⟨w.heap.size, 0, none⟩ v') X base rv0 v' 0 [] l1) := hR.out.set HXp.out hb2.out
        have HP : Hid (Prog l (.iface 61 (.pointer (some a))) .nilIface c 0 [] l1) := prog_start hr
        clear hb2 hr
        go_wp2_with fail
        go_meet
        case rel => exact ⟨c, v', l1, hc256, rfl, HR2, HP⟩
    case rest =>
      clear hR
      obtain ⟨c, vd, l', hc, rfl, hR, hP⟩ := hcut
      go_upto_block 0 with fail
      go_cut [1, 8] from 9 to 39 (fun s1 s8 wx => ∃ (k : Nat) (xs : List Value) (vd : Value) (l' : List UInt8), Hid (Rd w wx X base s1 vd k xs l') ∧ ((s8 = .nilIface ∧ Hid (Prog l (.iface 61 (.pointer (some a))) .nilIface 0 k xs l')) ∨ (s8 = .iface 61 (.pointer (some a)) ∧ Hid (rdTab l = none))))
      case first =>
        go_wp2_with fail
        go_loopw [1, 7, 8] (fun d1 d7 d8 wr => ∃ (c k : Nat) (xs : List Value) (vd : Value) (l' : List UInt8), c + k ≤ 256 ∧ d7 = .int .u64 c ∧ Hid (Rd w wr X base d1 vd k xs l') ∧ Hid (Prog l (.iface 61 (.pointer (some a))) d8 c k xs l')) (fun _ d7 _ _ => (intOf d7).toNat)
        case atStart => exact ⟨c, 0, [], vd, l', by omega, rfl, hR, hP⟩
        case round =>
          obtain ⟨c, k, xs, vd, l', hck, rfl, hR, hP⟩ := hrel
          have hE : (.iface 61 (.pointer (some a)) : Value) ≠ .nilIface := by intro e; cases e
          have HE : Hid ((.iface 61 (.pointer (some a)) : Value) ≠ .nilIface) := hE
          clear hE
          rcases hP.out with ⟨rfl, hq⟩ | ⟨rfl, hnone⟩
          · rcases c with _ | c
            · clear hq
              go_wp2_with fail
              go_meet
              case rel => exact ⟨k, xs, vd, l', hR, .inl ⟨rfl, hP⟩⟩
            · clear hq
              obtain ⟨i0, hi, hz0, hz1, hz2⟩ := info_parts info27
              have hcpos : (0 : Int) < ((c + 1 : Nat) : Int) := by omega
              have HRa : Hid (Rd w (wr.alloc (.cells #[.int .u64 0, .int .u64 0] 27)) X base u1 vd k xs l') := hR.out.alloc _
              have HRC : Hid (RC (wr.alloc (.cells #[.int .u64 0, .int .u64 0] 27)) wr.heap.size 0 0) := rc_new wr
              have hPR : w.heap.size < wr.heap.size := hR.out.lt
              have HOB : Hid (u1.ownBlock ≠ some wr.heap.size) := show _ ≠ _ from fun e => by have := (hR.out.own.lt _ e).2; omega
              go_wp2_with fail
              clear hR
              generalize wr.alloc (.cells #[.int .u64 0, .int .u64 0] 27) = w1 at *
              generalize wr.heap.size = R at *
              rcases h1 : rd1 l' with _ | ⟨s, l1⟩
              · have HP1 : Hid (∀ c' k' xs' l'', Prog l (.iface 61 (.pointer (some a))) (.iface 61 (.pointer (some a))) c' k' xs' l'') := show ∀ c' k' xs' l'', _ from fun c' k' xs' l'' => prog_e1 hP.out HE.out h1 c' k' xs' l''
                refine (uvarint_no w.heap.size _ vd _ l' w1 HRa.out.box HRa.out.bytes (HRa.out.glob HG.out HX0.out) h1).mono ?_
                rintro e w2 ⟨rfl, m, hw2⟩
                have HR2 : Hid (Rd w w2 X base u1 vd k xs l') := by rw [hw2]; exact HRa.out.drew
                have HRC2 : Hid (RC w2 R 0 0) := by rw [hw2]; exact HRC.out.drew
                clear hw2 h1 hP HRa HRC
                have d0 := HRC2.out.c0
                have f0 := HRC2.out.f0
                go_upto_region 7 with fail
                have HRf : Hid (Rd w (w2.setCell ⟨R, 0, none⟩ (.int .u64 0)) X base u1 vd k xs l') := HR2.out.far ⟨R, 0, none⟩ _ hPR HOB.out
                have HRCf : Hid (RC (w2.setCell ⟨R, 0, none⟩ (.int .u64 0)) R 0 0) := HRC2.out.set0 0
                clear d0 f0 HR2 HRC2
                generalize w2.setCell ⟨R, 0, none⟩ (.int .u64 0) = w3 at *
                have e0 := HRCf.out.c0
                have e1 := HRCf.out.c1
                go_wp2_with (at_builtin; refine wpList_append_own_at _ rfl _ _ 24 rfl base 27 i0 (.agg #[.int .u64 0, .int .u64 0]) 2 16 Tryd.underlying24 hi hz0 hz1 hz2 rfl (by decide) _ _ _ rfl (HRf.out.own.alloc _) ⟨w3.heap.size, 0, none⟩ 1 1 [.int .u64 0, .int .u64 0] rfl rfl ?c1 ?c2 ?c3 ?c4 ?c5 ?_)
                case c1 =>
                  intro j u hj
                  match j, hj with
                  | 0, hj => simp at hj; subst hj; simp [Addr.add]
                  | 1, hj => simp at hj; subst hj; simp [Addr.add]
                case c2 => intro u hu; simp at hu; rcases hu with rfl | rfl <;> rfl
                case c3 => unfold maxLen; omega
                case c4 => omega
                case c5 => have := HRf.out.grown.size; simp; omega
                intro rv9 w9 hown9 hgr9 _ hat9
                have HR9 : Hid (Rd w w9 X base rv9 vd (k + 1) (xs ++ [.int .u64 0, .int .u64 0]) l') := (HRf.out.alloc _).app HXp.out hgr9 hown9 (by simpa using hat9)
                clear hgr9 hown9 hat9 HRf HRCf e0 e1
                go_wp2_with fail
                go_roundw
                case rel => exact ⟨c, k + 1, _, vd, l', by omega, by go_num, HR9, HP1.out _ _ _ _⟩
                case measure => simp [intOf]
              · refine (uvarint_yes w.heap.size _ vd l' l1 s w1 HRa.out.box HRa.out.free HRa.out.bytes h1).mono ?_
                rintro e w2 ⟨v', rfl, hb2, hw2⟩
                have HR2 : Hid (Rd w w2 X base u1 v' k xs l1) := by rw [hw2]; exact HRa.out.set HXp.out hb2.out
                have HRC2 : Hid (RC w2 R 0 0) := by rw [hw2]; exact HRC.out.far _ _ (by simp only; omega)
                clear hw2 HRa HRC hb2
                have d0 := HRC2.out.c0
                have f0 := HRC2.out.f0
                go_upto_region 7 with fail
                have HR3 : Hid (Rd w (w2.setCell ⟨R, 0, none⟩ (.int .u64 s)) X base u1 v' k xs l1) := HR2.out.far ⟨R, 0, none⟩ _ hPR HOB.out
                have HRC3 : Hid (RC (w2.setCell ⟨R, 0, none⟩ (.int .u64 s)) R s 0) := HRC2.out.set0 s
                clear d0 f0 HR2 HRC2
                generalize w2.setCell ⟨R, 0, none⟩ (.int .u64 s) = w3 at *
                go_wp2_with fail
                rcases h2 : rd1 l1 with _ | ⟨i, l2⟩
                · have HP1 : Hid (∀ c' k' xs' l'', Prog l (.iface 61 (.pointer (some a))) (.iface 61 (.pointer (some a))) c' k' xs' l'') := show ∀ c' k' xs' l'', _ from fun c' k' xs' l'' => prog_e2 hP.out HE.out h1 h2 c' k' xs' l''
                  refine (uvarint_no w.heap.size _ v' _ l1 w3 HR3.out.box HR3.out.bytes (HR3.out.glob HG.out HX0.out) h2).mono ?_
                  rintro e w4 ⟨rfl, m, hw4⟩
                  have HR4 : Hid (Rd w w4 X base u1 v' k xs l1) := by rw [hw4]; exact HR3.out.drew
                  have HRC4 : Hid (RC w4 R s 0) := by rw [hw4]; exact HRC3.out.drew
                  clear hw4 h1 h2 hP HR3 HRC3
                  have d0 := HRC4.out.c1
                  have f0 := HRC4.out.f1
                  go_upto_region 9 with fail
                  have HRf : Hid (Rd w (w4.setCell ⟨R, 1, none⟩ (.int .u64 0)) X base u1 v' k xs l1) := HR4.out.far ⟨R, 1, none⟩ _ hPR HOB.out
                  have HRCf : Hid (RC (w4.setCell ⟨R, 1, none⟩ (.int .u64 0)) R s 0) := HRC4.out.set1 0
                  clear d0 f0 HR4 HRC4
                  generalize w4.setCell ⟨R, 1, none⟩ (.int .u64 0) = w5 at *
                  have e0 := HRCf.out.c0
                  have e1 := HRCf.out.c1
                  go_wp2_with (at_builtin; refine wpList_append_own_at _ rfl _ _ 24 rfl base 27 i0 (.agg #[.int .u64 0, .int .u64 0]) 2 16 Tryd.underlying24 hi hz0 hz1 hz2 rfl (by decide) _ _ _ rfl (HRf.out.own.alloc _) ⟨w5.heap.size, 0, none⟩ 1 1 [.int .u64 s, .int .u64 0] rfl rfl ?c1 ?c2 ?c3 ?c4 ?c5 ?_)
                  case c1 =>
                    intro j u hj
                    match j, hj with
                    | 0, hj => simp at hj; subst hj; simp [Addr.add]
                    | 1, hj => simp at hj; subst hj; simp [Addr.add]
                  case c2 => intro u hu; simp at hu; rcases hu with rfl | rfl <;> rfl
                  case c3 => unfold maxLen; omega
                  case c4 => omega
                  case c5 => have := HRf.out.grown.size; simp; omega
                  intro rv9 w9 hown9 hgr9 _ hat9
                  have HR9 : Hid (Rd w w9 X base rv9 v' (k + 1) (xs ++ [.int .u64 s, .int .u64 0]) l1) := (HRf.out.alloc _).app HXp.out hgr9 hown9 (by simpa using hat9)
                  clear hgr9 hown9 hat9 HRf HRCf e0 e1
                  go_wp2_with fail
                  go_roundw
                  case rel => exact ⟨c, k + 1, _, v', l1, by omega, by go_num, HR9, HP1.out _ _ _ _⟩
                  case measure => simp [intOf]
                · have HP1 : Hid (Prog l (.iface 61 (.pointer (some a))) .nilIface c (k + 1) (xs ++ [.int .u64 s, .int .u64 i]) l2) := prog_ok hP.out HE.out h1 h2
                  refine (uvarint_yes w.heap.size _ v' l1 l2 i w3 HR3.out.box HR3.out.free HR3.out.bytes h2).mono ?_
                  rintro e w4 ⟨v'', rfl, hb4, hw4⟩
                  have HR4 : Hid (Rd w w4 X base u1 v'' k xs l2) := by rw [hw4]; exact HR3.out.set HXp.out hb4.out
                  have HRC4 : Hid (RC w4 R s 0) := by rw [hw4]; exact HRC3.out.far _ _ (by simp only; omega)
                  clear hw4 h1 h2 hP HR3 HRC3 hb4
                  have d0 := HRC4.out.c1
                  have f0 := HRC4.out.f1
                  go_upto_region 9 with fail
                  have HRf : Hid (Rd w (w4.setCell ⟨R, 1, none⟩ (.int .u64 i)) X base u1 v'' k xs l2) := HR4.out.far ⟨R, 1, none⟩ _ hPR HOB.out
                  have HRCf : Hid (RC (w4.setCell ⟨R, 1, none⟩ (.int .u64 i)) R s i) := HRC4.out.set1 i
                  clear d0 f0 HR4 HRC4
                  generalize w4.setCell ⟨R, 1, none⟩ (.int .u64 i) = w5 at *
                  have e0 := HRCf.out.c0
                  have e1 := HRCf.out.c1
                  go_wp2_with (at_builtin; refine wpList_append_own_at _ rfl _ _ 24 rfl base 27 i0 (.agg #[.int .u64 0, .int .u64 0]) 2 16 Tryd.underlying24 hi hz0 hz1 hz2 rfl (by decide) _ _ _ rfl (HRf.out.own.alloc _) ⟨w5.heap.size, 0, none⟩ 1 1 [.int .u64 s, .int .u64 i] rfl rfl ?c1 ?c2 ?c3 ?c4 ?c5 ?_)
                  case c1 =>
                    intro j u hj
                    match j, hj with
                    | 0, hj => simp at hj; subst hj; simp [Addr.add]
                    | 1, hj => simp at hj; subst hj; simp [Addr.add]
                  case c2 => intro u hu; simp at hu; rcases hu with rfl | rfl <;> rfl
                  case c3 => unfold maxLen; omega
                  case c4 => omega
                  case c5 => have := HRf.out.grown.size; simp; omega
                  intro rv9 w9 hown9 hgr9 _ hat9
                  have HR9 : Hid (Rd w w9 X base rv9 v'' (k + 1) (xs ++ [.int .u64 s, .int .u64 i]) l2) := (HRf.out.alloc _).app HXp.out hgr9 hown9 (by simpa using hat9)
                  clear hgr9 hown9 hat9 HRf HRCf e0 e1
                  go_wp2_with fail
                  go_roundw
                  case rel => exact ⟨c, k + 1, _, v'', l2, by omega, by go_num, HR9, HP1⟩
                  case measure => simp [intOf]
          · clear hP
            go_wp2_with fail
            go_meet
            case rel => exact ⟨k, xs, vd, l', hR, .inr ⟨rfl, hnone⟩⟩
      case rest =>
        clear hR hP hc
        obtain ⟨k, xs, vd, l', hR, hor⟩ := hcut
        rcases hor with ⟨rfl, hP⟩ | ⟨rfl, hnone⟩
        · obtain ⟨qs, q1, q2, q3⟩ := prog_stop hP.out (by intro e; cases e)
          have cb := hR.out.box
          have HA : Hid (∀ m, Ans (.returned (.tuple #[u1, vd, .nilIface])) w (wc.drewN m) X base (.iface 61 (.pointer (some a))) l) := show ∀ m, _ from fun m => by
            refine ⟨hR.out.drew.grown, .inr ⟨qs, l', u1, vd, q1, rfl, ?_, hR.out.blk, hR.out.drew.bytes⟩⟩
            rw [← q2, ← q3]
            exact hR.out.drew.own
          clear hP q1 q2 q3 hR
          go_wp2_with fail
          go_quiet (fail)
          go_wp2_with fail
          go_ret3
          exact HA.out _
        · have HA : Hid (Ans (.returned (.tuple #[.slice none 0 0, .slice none 0 0, .iface 61 (.pointer (some a))])) w wc X base (.iface 61 (.pointer (some a))) l) := (⟨hR.out.grown, .inl ⟨hnone.out, rfl⟩⟩ : Ans _ _ _ _ _ _ _)
          clear hR hnone
          go_wp2_with fail
          go_ret3
          exact HA.out

set_option maxHeartbeats 1000000 in
/-- ZZReadRelocs. -/
theorem zzRead (base n : Nat) (rv v : Value) (xs : List Value) (a : Addr) (l : List UInt8) (w : World) (hown : w.ownsRow base 27 2 rv n xs) (hbase : base ≤ w.heap.size) (hg : w.cell? ⟨0, 0, none⟩ = some (.iface 61 (.pointer (some a)))) (h0 : some 0 ≠ rv.ownBlock)
    (hb : BS w (fun g => g < w.heap.size ∧ some g ≠ rv.ownBlock) v l) (hc : ∀ c r, rd1 l = some (c, r) → c ≤ 256) :
    Calls Tryd.prog 6 #[v, rv] w fun e w' => Ans e w w' rv.ownBlock base (.iface 61 (.pointer (some a))) l := by
  have HCall := read base n rv v xs a l w hown hbase hg h0 hb hc
  have HK : Hid (Calls Tryd.prog 11 #[v, rv] w fun e w' => Ans e w w' rv.ownBlock base (.iface 61 (.pointer (some a))) l) := HCall
  clear HCall hown hg h0 hb hc
  go_enter Tryd.func6, Tryd.ntmps6
  go_wp2_with fail
  refine HK.out.mono ?_
  rintro e w2 ⟨hgr, h⟩
  rcases h with ⟨h1, rfl⟩ | ⟨ps, r, rv', vd, h1, rfl, h2, h3, h4⟩
  · have HA : Hid (Ans (.returned (.tuple #[.slice none 0 0, .slice none 0 0, .iface 61 (.pointer (some a))])) w w2 rv.ownBlock base (.iface 61 (.pointer (some a))) l) := (⟨hgr, .inl ⟨h1, rfl⟩⟩ : Ans _ _ _ _ _ _ _)
    clear hgr h1
    go_wp2_with fail
    go_ret3
    exact HA.out
  · have HA : Hid (Ans (.returned (.tuple #[rv', vd, .nilIface])) w w2 rv.ownBlock base (.iface 61 (.pointer (some a))) l) := (⟨hgr, .inr ⟨ps, r, rv', vd, h1, rfl, h2, h3, h4⟩⟩ : Ans _ _ _ _ _ _ _)
    clear hgr h1 h2 h3 h4
    go_wp2_with fail
    go_ret3
    exact HA.out
end Go.Proofs.Qxb6003830aDoor.Read
