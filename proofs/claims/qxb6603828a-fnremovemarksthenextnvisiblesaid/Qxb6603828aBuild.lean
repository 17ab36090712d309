import Derived.Test.Qxb6603828aMake
import Derived.Deep.RegionHeld3
import Derived.Deep.DrawnRows
namespace Go.Proofs.Qxb6603828a
open Go.RowKit
attribute [local go_sem ↓] Go.wp_at_zero Go.wp_at_succ

theorem Try.info43 : (Try.prog.info? 43).map (fun i => (i.zero, i.size, i.bytes)) = some (some (.agg #[.int .u64 0, .int .u64 0, .int .u8 0, .bool false]), 4, 32) := by kernel_rfl
theorem Try.info47 : (Try.prog.info? 47).map (fun i => (i.zero, i.size, i.bytes)) = some (some (.pointer none), 1, 8) := by kernel_rfl

/-- An element row being filled: the first j elements are laid. -/
def ElRow (w : World) (g l j : Nat) (Ek : Nat → El) : Prop :=
  ∃ c : Array Value, w.heap[g]? = some (.cells c 43 (0, 0)) ∧ c.size = l * 4 ∧
    ∀ i, i < j → c[i * 4]? = some (.int .u64 (Ek i).v) ∧ c[i * 4 + 1]? = some (.int .u64 (Ek i).o) ∧ c[i * 4 + 2]? = some (.int .u8 (Ek i).k) ∧ c[i * 4 + 3]? = some (.bool (Ek i).r)

theorem bcell {W w1 : World} (hb : Below W.heap.size W w1) : (∀ b o, b < W.heap.size → w1.cell? ⟨b, o, none⟩ = W.cell? ⟨b, o, none⟩) ∧ (∀ b o, b < W.heap.size → w1.frozen? ⟨b, o, none⟩ = W.frozen? ⟨b, o, none⟩) :=
  ⟨fun b o h => hb.cell (p := ⟨b, o, none⟩) h, fun b o h => hb.frozen (p := ⟨b, o, none⟩) h⟩

theorem run_make43 (n : Nat) (h : n ≤ 43690) (w : World) : (Instr.makeSlice 38 (.int .i64 (n : Int)) (.int .i64 (n : Int))).run Try.prog w =
    .ok (.slice (some ⟨w.heap.size, 0, none⟩) n n) (w.alloc (.cells (madeCells #[.int .u64 0, .int .u64 0, .int .u8 0, .bool false] (n * 4)) 43)) := by
  obtain ⟨i, hi, hzz⟩ := Option.map_eq_some_iff.1 Try.info43
  simp only [Prod.mk.injEq] at hzz
  obtain ⟨hz, hs, hb⟩ := hzz
  have := run_make (P := Try.prog) w 38 43 i _ Try.underlying38 hi hz .i64 .i64 (n : Int) (n : Int) (by omega) (Int.le_refl _) (by rw [hb]; omega) (by omega)
  rw [this, hs]
  rfl


/-- k rows of the sequence are laid. -/
structure Bld (w wr : World) (n k : Nat) (P G L : Nat → Nat) (E : Nat → Nat → El) (V : Nat → Int) : Prop where
  below : Below w.heap.size w wr
  bl : wr.rowIs w.heap.size 47 n (fun j => if j < k then .pointer (some ⟨P j, 0, none⟩) else .pointer none)
  ord : ∀ j, j < k → w.heap.size < G j ∧ G j < P j ∧ P j < wr.heap.size
  inc : ∀ i j, i < j → j < k → P i < G j
  blk : ∀ j, j < k → wr.heap[P j]? = some (.cells (blkCells (some ⟨G j, 0, none⟩) (L j) (L j) (V j)) 66 (0, 0))
  els : ∀ j, j < k → ElRow wr (G j) (L j) (L j) (E j)

theorem ElRow.of_block {w w' : World} {g l j : Nat} {Ek : Nat → El} (h : ElRow w g l j Ek) (e : w'.heap[g]? = w.heap[g]?) : ElRow w' g l j Ek := by
  obtain ⟨c, h1, h2⟩ := h
  exact ⟨c, e.trans h1, h2⟩

theorem Bld.carry {w wr wr' : World} {n k : Nat} {P G L : Nat → Nat} {E : Nat → Nat → El} {V : Nat → Int} (h : Bld w wr n k P G L E V) (g : Nat) (hg0 : w.heap.size < g) (hg : ∀ j, j < k → P j < g)
    (hb : Below w.heap.size w wr') (hsz : wr.heap.size ≤ wr'.heap.size) (same : ∀ b, b < wr.heap.size → b ≠ g → wr'.heap[b]? = wr.heap[b]?) : Bld w wr' n k P G L E V := by
  refine ⟨hb, h.bl.of_block (same _ h.bl.lt (by omega)), fun j hj => ?_, h.inc, fun j hj => ?_, fun j hj => ?_⟩
  · have := h.ord j hj
    omega
  · have h1 := h.ord j hj
    have h2 := hg j hj
    rw [same _ (by omega) (by omega)]
    exact h.blk j hj
  · have h1 := h.ord j hj
    have h2 := hg j hj
    exact (h.els j hj).of_block (same _ (by omega) (by omega))

/-- .. and row k is being filled, in block g. -/
structure BldIn (w wi : World) (n k g j : Nat) (P G L : Nat → Nat) (E : Nat → Nat → El) (V : Nat → Int) : Prop where
  out : Bld w wi n k P G L E V
  g0 : w.heap.size < g
  gp : ∀ i, i < k → P i < g
  cur : ElRow wi g (L k) j (E k)

theorem ElRow.lt {w : World} {g l j : Nat} {Ek : Nat → El} (h : ElRow w g l j Ek) : g < w.heap.size := by
  obtain ⟨c, h1, _⟩ := h
  exact (Array.getElem?_eq_some_iff.1 h1).1

/-- The cells of element j are there, and not frozen. -/
theorem ElRow.room {w : World} {g l j : Nat} {Ek : Nat → El} (h : ElRow w g l j Ek) (hj : j < l) :
    (∃ x0 x1 x2 x3, w.cell? ⟨g, j * 4, none⟩ = some x0 ∧ w.cell? ⟨g, j * 4 + 1, none⟩ = some x1 ∧ w.cell? ⟨g, j * 4 + 2, none⟩ = some x2 ∧ w.cell? ⟨g, j * 4 + 3, none⟩ = some x3) ∧ ∀ o, w.frozen? ⟨g, o, none⟩ = false := by
  obtain ⟨c, h1, h2, _⟩ := h
  refine ⟨⟨c[j * 4], c[j * 4 + 1], c[j * 4 + 2], c[j * 4 + 3], ?_, ?_, ?_, ?_⟩, fun o => ?_⟩ <;> simp [World.cell?, World.frozen?, h1]

theorem cell_set4 {w : World} {g b o a0 a1 a2 a3 : Nat} {v0 v1 v2 v3 : Value} (h : b ≠ g) :
    ((((w.setCell ⟨g, a0, none⟩ v0).setCell ⟨g, a1, none⟩ v1).setCell ⟨g, a2, none⟩ v2).setCell ⟨g, a3, none⟩ v3).cell? ⟨b, o, none⟩ = w.cell? ⟨b, o, none⟩ := by
  have e : ∀ (w : World) (a : Nat) (v : Value), (w.setCell ⟨g, a, none⟩ v).cell? ⟨b, o, none⟩ = w.cell? ⟨b, o, none⟩ := fun w a v =>
    World.cell?_setCell_other _ _ _ _ (fun e => h (by have := congrArg Addr.block e; simp at this; omega))
  rw [e, e, e, e]

theorem blk_set1 {w : World} {g a0 : Nat} {v0 : Value} {c : Array Value} {t : TypeId} (h : w.heap[g]? = some (.cells c t (0, 0))) :
    (w.setCell ⟨g, a0, none⟩ v0).heap[g]? = some (.cells (c.setIfInBounds a0 v0) t (0, 0)) := by
  simp [World.setCell, Array.getElem?_modify, h]

theorem below_of_drew {B : Nat} {w w1 : World} (h : Below B w.drew w1) : Below B w w1 := ⟨h.os, h.tape, h.output, h.size, h.block⟩

/-- One element more is laid in the row. -/
theorem ElRow.put {w W : World} {g l j : Nat} {Ek : Nat → El} (h : ElRow w g l j Ek) (hj : j < l) (e2 : W.heap[g]? = w.heap[g]?) :
    ElRow ((((W.setCell ⟨g, j * 4, none⟩ (.int .u64 (Ek j).v)).setCell ⟨g, j * 4 + 1, none⟩ (.int .u64 (Ek j).o)).setCell ⟨g, j * 4 + 2, none⟩ (.int .u8 (Ek j).k)).setCell ⟨g, j * 4 + 3, none⟩ (.bool (Ek j).r)) g l (j + 1) Ek := by
  obtain ⟨c, hc, hsz, hel⟩ := h
  refine ⟨_, blk_set1 (blk_set1 (blk_set1 (blk_set1 (e2.trans hc)))), by simpa using hsz, fun i hi => ?_⟩
  by_cases e : i = j
  · subst e
    simp [Array.getElem?_setIfInBounds, hsz]
    omega
  · have := hel i (by omega)
    have m0 : ¬ j * 4 = i * 4 := by omega
    have m1 : ¬ j * 4 + 1 = i * 4 := by omega
    have m2 : ¬ j * 4 + 2 = i * 4 := by omega
    have m3 : ¬ j * 4 + 3 = i * 4 := by omega
    have m4 : ¬ j * 4 = i * 4 + 1 := by omega
    have m5 : ¬ j * 4 + 2 = i * 4 + 1 := by omega
    have m6 : ¬ j * 4 + 3 = i * 4 + 1 := by omega
    have m7 : ¬ j * 4 = i * 4 + 2 := by omega
    have m8 : ¬ j * 4 + 1 = i * 4 + 2 := by omega
    have m9 : ¬ j * 4 + 3 = i * 4 + 2 := by omega
    have m10 : ¬ j * 4 = i * 4 + 3 := by omega
    have m11 : ¬ j * 4 + 1 = i * 4 + 3 := by omega
    have m12 : ¬ j * 4 + 2 = i * 4 + 3 := by omega
    simp only [Array.getElem?_setIfInBounds, m0, m1, m2, m3, m4, m5, m6, m7, m8, m9, m10, m11, m12, if_false, Nat.add_right_cancel_iff]
    exact this

/-- One element more is laid. -/
theorem bldIn_step {w wr w1 w2 : World} {n k g j : Nat} {P G L : Nat → Nat} {E : Nat → Nat → El} {V : Nat → Int} (h : BldIn w wr n k g j P G L E V) (hj : j < L k)
    (hb1 : Below wr.heap.size wr w1) (hb2 : Below w1.heap.size w1 w2) :
    BldIn w ((((w2.setCell ⟨g, j * 4, none⟩ (.int .u64 (E k j).v)).setCell ⟨g, j * 4 + 1, none⟩ (.int .u64 (E k j).o)).setCell ⟨g, j * 4 + 2, none⟩ (.int .u8 (E k j).k)).setCell ⟨g, j * 4 + 3, none⟩ (.bool (E k j).r)) n k g (j + 1) P G L E V := by
  have hg := h.cur.lt
  have hb12 : Below wr.heap.size wr w2 := hb1.trans (hb2.mono hb1.size)
  have h0 := h.g0
  have hs0 := h.out.below.size
  have e2 : w2.heap[g]? = wr.heap[g]? := hb12.block g hg
  refine ⟨h.out.carry g h0 h.gp ?_ ?_ ?_, h0, h.gp, ?_⟩
  · exact ((((h.out.below.trans (hb12.mono hs0)).setCell (by simp; omega) _).setCell (by simp; omega) _).setCell (by simp; omega) _).setCell (by simp; omega) _
  · simpa using hb12.size
  · intro b hb hne
    rw [Deep.blk_setCell_other _ _ _ _ hne, Deep.blk_setCell_other _ _ _ _ hne, Deep.blk_setCell_other _ _ _ _ hne, Deep.blk_setCell_other _ _ _ _ hne]
    exact hb12.block b hb
  · exact h.cur.put hj e2

theorem bldIn_start {w wr : World} {n k : Nat} {P G L : Nat → Nat} {E : Nat → Nat → El} {V : Nat → Int} (h : Bld w wr n k P G L E V) :
    BldIn w (wr.alloc (.cells (madeCells #[.int .u64 0, .int .u64 0, .int .u8 0, .bool false] (L k * 4)) 43)) n k wr.heap.size 0 P G L E V := by
  have h0 := h.bl.lt
  refine ⟨h.carry wr.heap.size h0 (fun j hj => (h.ord j hj).2.2) (h.below.alloc h.below.size _) (by simp) (fun b hb _ => Deep.blk_alloc_lt _ _ _ hb), h0, fun j hj => (h.ord j hj).2.2, _, Deep.blk_alloc_new _ _, size_madeCells _ _, fun i hi => absurd hi (Nat.not_lt_zero _)⟩

/-- f with f k turned to x. -/
def upd (f : Nat → Nat) (k x : Nat) : Nat → Nat := fun j => if j = k then x else f j

theorem upd_at (f : Nat → Nat) (k x : Nat) : upd f k x k = x := by simp [upd]
theorem upd_ne (f : Nat → Nat) {k x j : Nat} (h : j ≠ k) : upd f k x j = f j := by simp [upd, h]

/-- Row k is full, its block is made and stored: one row more. -/
theorem bld_next {w wi : World} {n k g : Nat} {P G L : Nat → Nat} {E : Nat → Nat → El} {V : Nat → Int} (h : BldIn w wi n k g (L k) P G L E V) :
    Bld w (((wi.alloc (.cells #[.int .u64 0, .int .u64 0, .int .u8 0] 41)).alloc (.cells (blkCells (some ⟨g, 0, none⟩) (L k) (L k) (V k)) 66)).setCell ⟨w.heap.size, k, none⟩ (.pointer (some ⟨wi.heap.size + 1, 0, none⟩))) n (k + 1)
      (upd P k (wi.heap.size + 1)) (upd G k g) L E V := by
  have hg := h.cur.lt
  have h0 := h.g0
  have hbl := h.out.bl.lt
  have old : ∀ b, b < wi.heap.size → b ≠ w.heap.size → (((wi.alloc (.cells #[.int .u64 0, .int .u64 0, .int .u8 0] 41)).alloc (.cells (blkCells (some ⟨g, 0, none⟩) (L k) (L k) (V k)) 66)).setCell ⟨w.heap.size, k, none⟩ (.pointer (some ⟨wi.heap.size + 1, 0, none⟩))).heap[b]? = wi.heap[b]? := by
    intro b hb hne
    rw [Deep.blk_setCell_other _ _ _ _ hne, Deep.blk_alloc_lt _ _ _ (by simp; omega), Deep.blk_alloc_lt _ _ _ hb]
  refine ⟨?_, ?_, ?_, ?_, ?_, ?_⟩
  · exact ((h.out.below.alloc h.out.below.size _).alloc (by have := h.out.below.size; simp; omega) _).setCell (Nat.le_refl _) _
  · refine (((h.out.bl.alloc _).alloc _).set k _).congr (fun j _ => ?_)
    by_cases e : j = k
    · subst e; simp [upd]
    · simp only [e, if_false, upd]
      by_cases hlt : j < k
      · rw [if_pos hlt, if_pos (by omega)]
      · rw [if_neg hlt, if_neg (by omega)]
  · intro j hj
    by_cases e : j = k
    · subst e; rw [upd_at, upd_at]; simp; omega
    · rw [upd_ne _ e, upd_ne _ e]
      have := h.out.ord j (by omega)
      simp; omega
  · intro i j hij hj
    rw [upd_ne _ (show i ≠ k by omega)]
    by_cases e : j = k
    · subst e; rw [upd_at]; exact h.gp i hij
    · rw [upd_ne _ e]; exact h.out.inc i j hij (by omega)
  · intro j hj
    by_cases e : j = k
    · subst e; rw [upd_at, upd_at, Deep.blk_setCell_other _ _ _ _ (by simp; omega)]
      have := Deep.blk_alloc_new (wi.alloc (.cells #[.int .u64 0, .int .u64 0, .int .u8 0] 41)) (.cells (blkCells (some ⟨g, 0, none⟩) (L j) (L j) (V j)) 66)
      simpa using this
    · have := h.out.ord j (by omega)
      rw [upd_ne _ e, upd_ne _ e, old _ (by omega) (by omega)]
      exact h.out.blk j (by omega)
  · intro j hj
    by_cases e : j = k
    · subst e; rw [upd_at]; exact h.cur.of_block (old _ hg (by omega))
    · have := h.out.ord j (by omega)
      rw [upd_ne _ e]
      exact (h.out.els j (by omega)).of_block (old _ (by omega) (by omega))

/-- WHAT build HAS LAID. -/
structure Built (w w' : World) (n sb : Nat) (P G L : Nat → Nat) (E : Nat → Nat → El) (V : Nat → Int) (vis : Int) : Prop where
  out : Bld w w' n n P G L E V
  sq : w'.heap[sb]? = some (.cells (seqCells (some ⟨w.heap.size, 0, none⟩) n n vis) 64 (0, 0))
  top : w.heap.size < sb ∧ ∀ j, j < n → P j < sb

theorem built_of {w wr : World} {n : Nat} {P G L : Nat → Nat} {E : Nat → Nat → El} {V : Nat → Int} (vis : Int) (h : Bld w wr n n P G L E V) :
    Built w (wr.alloc (.cells (seqCells (some ⟨w.heap.size, 0, none⟩) n n vis) 64)) n wr.heap.size P G L E V vis :=
  ⟨h.carry wr.heap.size h.bl.lt (fun j hj => (h.ord j hj).2.2) (h.below.alloc h.below.size _) (by simp) (fun b hb _ => Deep.blk_alloc_lt _ _ _ hb), Deep.blk_alloc_new _ _, h.bl.lt, fun j hj => (h.ord j hj).2.2⟩

def BuildRet (w : World) (n : Nat) (L : Nat → Nat) (E : Nat → Nat → El) (V : Nat → Int) (vis : Int) (e : Ending) (w' : World) : Prop :=
  ∃ (sb : Nat) (P G : Nat → Nat), e = .returned (.tuple #[.pointer (some ⟨sb, 0, none⟩), .slice (some ⟨w.heap.size, 0, none⟩) n n]) ∧ Built w w' n sb P G L E V vis

set_option maxHeartbeats 1000000 in
theorem build11 {w : World} {ao : Option Addr} {n nc gb go : Nat} {A : Nat → Option Addr} {L C RB RO : Nat → Nat} {E : Nat → Nat → El} (h : Arg w ao n gb go A L C RB RO E)
    {vo : Option Addr} {mc vb vf : Nat} {V : Nat → Int} (hv : VArg w vo n vb vf V) (vis : Int) (hs : Sz n n L) :
    Calls Try.prog 11 #[.slice ao n nc, .slice vo n mc, .int .i64 vis] w fun e w' => BuildRet w n L E V vis e w' := by
  have hn := hs.n
  have hmk28 := run_make_row' (P := Try.prog) 28 47 (.pointer none) 8 Try.underlying28 Try.info47 rfl .i64 .i64 n (by omega) (by omega)
  go_enter Try.func11, Try.ntmps11
  go_wp2
  clear hmk28
  go_loopw [9] (fun x wr => ∃ (k : Nat) (P G : Nat → Nat), k ≤ n ∧ x = .int .i64 k ∧ Bld w wr n k P G L E V) (fun x _ => n - (intOf x).toNat)
  case atStart =>
    refine ⟨0, fun _ => 0, fun _ => 0, Nat.zero_le _, rfl, (Below.refl _ _).alloc (Nat.le_refl _) _, (World.rowIs_made w _ n 47).congr (fun j _ => by simp), ?_, ?_, ?_, ?_⟩ <;> intros <;> omega
  case round =>
    obtain ⟨k, P, G, hk, rfl, hB⟩ := hrel
    by_cases hkn : k < n
    · obtain rfl := h.ga (by omega)
      have hl := hs.row hkn
      have hmk := run_make43 (L k) hl
      have hrow' := (h.kept hB.below).row k hkn
      obtain ⟨g, hgz⟩ : ∃ g, wr.heap.size = g := ⟨_, rfl⟩
      go_wp2
      clear hmk hrow'
      go_loopw [11] (fun x wi => ∃ (j : Nat), j ≤ L k ∧ x = .int .i64 j ∧ BldIn w wi n k g j P G L E V) (fun x _ => L k - (intOf x).toNat)
      case atStart =>
        subst hgz
        exact ⟨0, Nat.zero_le _, rfl, bldIn_start hB⟩
      case round =>
        clear hgz hB
        obtain ⟨j, hj, rfl, hI⟩ := hrel
        by_cases hjl : j < L k
        · have hr := hI.cur.room hjl
          obtain ⟨⟨x0, x1, x2, x3, hx0, hx1, hx2, hx3⟩, hfz⟩ := hr
          have h' := h.kept hI.out.below
          have hrow := h'.row k hkn
          rw [h.lead k hkn j hjl] at hrow
          have c0 := h'.c0 k hkn j hjl
          have c1 := h'.c1 k hkn j hjl
          have c2 := h'.c2 k hkn j hjl
          have c3 := h'.c3 k hkn j hjl
          have b1 : gb < wr.heap.size := World.block_lt_of_cell? _ _ hrow
          have b2 : RB k < wr.heap.size := World.block_lt_of_cell? _ _ c0
          have b3 : g < wr.heap.size := hI.cur.lt
          have n1 : gb ≠ g := by have := World.block_lt_of_cell? _ _ (h.row k hkn); have := hI.g0; simp at *; omega
          have n2 : RB k ≠ g := by have := World.block_lt_of_cell? _ _ (h.c0 k hkn j hjl); have := hI.g0; simp at *; omega
          have HI : Hid (BldIn w wr n k g j P G L E V) := hI
          have Hh : Hid (Arg w (some ⟨gb, go, none⟩) n gb go A L C RB RO E) := h
          have Hv : Hid (VArg w vo n vb vf V) := hv
          have Hs : Hid (Sz n n L) := hs
          have jz0 : (0 : Int) ≤ (j : Int) := by omega
          have jz1 : (j : Int) < (L k : Int) := by omega
          have kz0 : (0 : Int) ≤ (k : Int) := by omega
          have kz1 : (k : Int) < (n : Int) := by omega
          clear h h' hv hs hI
          go_wp2_with fail
          go_region_held3 (fun w' => w'.cell? ⟨gb, go + k, none⟩ = some (.slice (some ⟨RB k, RO k, none⟩) (L k) (C k)) ∧ w'.cell? ⟨RB k, RO k + j * 4, none⟩ = some (.int .u64 (E k j).v) ∧ w'.cell? ⟨RB k, RO k + j * 4 + 1, none⟩ = some (.int .u64 (E k j).o) ∧ w'.cell? ⟨RB k, RO k + j * 4 + 2, none⟩ = some (.int .u8 (E k j).k) ∧ w'.cell? ⟨RB k, RO k + j * 4 + 3, none⟩ = some (.bool (E k j).r))
            (((try dsimp only); (try go_split_ands); refine ⟨?_, ?_, ?_, ?_, ?_⟩ <;> first | (apply cell_kept; assumption; first | assumption | (simp; assumption)) | (rw [cell_set4 n1]; assumption) | (rw [cell_set4 n2]; assumption) | go_keep))
            (first
              | (go_at_call 16; refine (uuid16 (E k j).v (E k j).o (E k j).k (E k j).r _).mono ?_; rintro e w1 ⟨rfl, hb1⟩; have y0 := cell_kept hb1 hx0; have y1 := cell_kept hb1 hx1; have y2 := cell_kept hb1 hx2; have y3 := cell_kept hb1 hx3; have yf := fun o => (hb1.frozen (p := ⟨g, o, none⟩) b3).trans (hfz o); have b4 : g < w1.heap.size := Nat.lt_of_lt_of_le b3 hb1.size)
              | (go_at_call 15; refine (elem15 (E k j).v (E k j).o (E k j).k (E k j).r _).mono ?_; rintro e w2 ⟨rfl, hb2⟩; have z0 := cell_kept hb2 y0; have z1 := cell_kept hb2 y1; have z2 := cell_kept hb2 y2; have z3 := cell_kept hb2 y3; have zf := fun o => (hb2.frozen (p := ⟨g, o, none⟩) b4).trans (yf o)))
          go_wp2
          go_roundw
          case rel => exact ⟨j + 1, by omega, by go_num, bldIn_step HI.out hjl (below_of_drew hb1) hb2⟩
          case measure => simp [intOf]; omega
        · obtain rfl : j = L k := by omega
          have hrow := (h.kept hI.out.below).row k hkn
          have hvk := hv.cell k hkn
          have hvk' := cell_kept hI.out.below hvk
          obtain rfl := hv.va (by omega)
          have hbl := hI.out.bl.cell hkn
          have hbf := hI.out.bl.frozen k
          have hbz := hI.out.bl.lt
          have hb2 : ∀ o1 o2, ((wr.alloc o1).alloc o2).cell? ⟨w.heap.size, k, none⟩ = some (.pointer none) := fun o1 o2 => cell_old (cell_old (by simpa using hbl) o1) o2
          have hf2 : ∀ o1 o2, ((wr.alloc o1).alloc o2).frozen? ⟨w.heap.size, k, none⟩ = false := fun o1 o2 => by
            rw [World.frozen?_alloc_old _ _ _ (by simp; omega), World.frozen?_alloc_old _ _ _ (by simp; omega)]; exact hbf
          have HI : Hid (BldIn w wr n k g (L k) P G L E V) := hI
          clear hI hbl hbf hvk
          go_wp2_with fail
          refine (block18 _ _ _ _ _).mono ?_
          rintro e w1 ⟨rfl, rfl⟩
          go_wp2
          go_roundw
          case rel => exact ⟨k + 1, _, _, by omega, by go_num, by have := bld_next HI.out; rw [World.setCell_alloc_past _ _ _ _ (by simp; omega), World.setCell_alloc_past _ _ _ _ (by omega)] at this; exact this⟩
          case measure => simp [intOf]; omega
    · obtain rfl : k = n := by omega
      have HB : Hid (Bld w wr k k P G L E V) := hB
      clear hB
      go_wp2_with fail
      refine (seq17 _ _ _ _ _).mono ?_
      rintro e w1 ⟨rfl, rfl⟩
      go_wp2
      go_ret2
      exact ⟨_, P, G, rfl, built_of vis HB.out⟩
theorem cell_of_blk {w : World} {b i : Nat} {c : Array Value} {t : TypeId} {m : Nat × Nat} {v : Value} (h : w.heap[b]? = some (.cells c t m)) (hc : c[i]? = some v) : w.cell? ⟨b, i, none⟩ = some v := by
  simp [World.cell?, h, hc]

theorem ElRow.cells {w : World} {g l j : Nat} {Ek : Nat → El} (h : ElRow w g l j Ek) {i : Nat} (hi : i < j) :
    w.cell? ⟨g, i * 4, none⟩ = some (.int .u64 (Ek i).v) ∧ w.cell? ⟨g, i * 4 + 1, none⟩ = some (.int .u64 (Ek i).o) ∧ w.cell? ⟨g, i * 4 + 2, none⟩ = some (.int .u8 (Ek i).k) ∧ w.cell? ⟨g, i * 4 + 3, none⟩ = some (.bool (Ek i).r) := by
  obtain ⟨c, h1, _, h3⟩ := h
  obtain ⟨a, b, d, e⟩ := h3 i hi
  exact ⟨cell_of_blk h1 a, cell_of_blk h1 b, cell_of_blk h1 d, cell_of_blk h1 e⟩

theorem Built.seqM {w w' : World} {n sb : Nat} {P G L : Nat → Nat} {E : Nat → Nat → El} {V : Nat → Int} {vis : Int} (h : Built w w' n sb P G L E V vis) :
    SeqM w' sb w.heap.size n n P G L L E V vis :=
  ⟨cell_of_blk h.sq rfl, cell_of_blk h.sq rfl, fun k hk => by have := h.out.bl.cell hk; simpa [hk] using this, fun k hk => cell_of_blk (h.out.blk k hk) rfl, fun k hk => cell_of_blk (h.out.blk k hk) rfl,
    fun k hk j hj => ((h.out.els k hk).cells hj).1, fun k hk j hj => ((h.out.els k hk).cells hj).2.1, fun k hk j hj => ((h.out.els k hk).cells hj).2.2.1, fun k hk j hj => ((h.out.els k hk).cells hj).2.2.2⟩

end Go.Proofs.Qxb6603828a
