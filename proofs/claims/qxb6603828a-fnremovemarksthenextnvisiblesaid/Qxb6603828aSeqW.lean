/-
  A SEQUENCE THAT MAY BE WRITTEN, block by block.
-/
import Derived.Test.Qxb6603828aMark
namespace Go.Proofs.Qxb6603828a
open Go.RowKit
set_option linter.unusedVariables false
set_option linter.unusedSimpArgs false

structure SeqW (w : World) (sb bb N : Nat) (P G L : Nat → Nat) (E : Nat → Nat → El) (V : Nat → Int) (vis : Int) : Prop where
  bl : w.rowIs bb 47 N (fun j => .pointer (some ⟨P j, 0, none⟩))
  ord : ∀ j, j < N → bb < G j ∧ G j < P j ∧ P j < sb
  inc : ∀ i j, i < j → j < N → P i < G j
  blk : ∀ j, j < N → w.heap[P j]? = some (.cells (blkCells (some ⟨G j, 0, none⟩) (L j) (L j) (V j)) 66 (0, 0))
  els : ∀ j, j < N → ElRow w (G j) (L j) (L j) (E j)
  sq : w.heap[sb]? = some (.cells (seqCells (some ⟨bb, 0, none⟩) N N vis) 64 (0, 0))
  top : bb < sb

theorem Built.seqW {w w' : World} {n sb : Nat} {P G L : Nat → Nat} {E : Nat → Nat → El} {V : Nat → Int} {vis : Int} (h : Built w w' n sb P G L E V vis) : SeqW w' sb w.heap.size n P G L E V vis :=
  ⟨h.out.bl.congr (fun j hj => by simp [hj]), fun j hj => ⟨(h.out.ord j hj).1, (h.out.ord j hj).2.1, h.top.2 j hj⟩, h.out.inc, h.out.blk, h.out.els, h.sq, h.top.1⟩

/-- A block of the sequence. -/
def OfSeq (sb bb N : Nat) (P G : Nat → Nat) (b : Nat) : Prop := b = bb ∨ b = sb ∨ ∃ j, j < N ∧ (b = P j ∨ b = G j)

section
variable {w w' : World} {sb bb N : Nat} {P G L : Nat → Nat} {E E' : Nat → Nat → El} {V V' : Nat → Int} {vis : Int}

theorem SeqW.carry (h : SeqW w sb bb N P G L E V vis) (same : ∀ b, OfSeq sb bb N P G b → w'.heap[b]? = w.heap[b]?) : SeqW w' sb bb N P G L E V vis :=
  ⟨h.bl.of_block (same _ (Or.inl rfl)), h.ord, h.inc, fun j hj => by rw [same _ (Or.inr (Or.inr ⟨j, hj, Or.inl rfl⟩))]; exact h.blk j hj,
    fun j hj => (h.els j hj).of_block (same _ (Or.inr (Or.inr ⟨j, hj, Or.inr rfl⟩))), by rw [same _ (Or.inr (Or.inl rfl))]; exact h.sq, h.top⟩

theorem SeqW.sbLt (h : SeqW w sb bb N P G L E V vis) : sb < w.heap.size := (Array.getElem?_eq_some_iff.1 h.sq).1

theorem SeqW.lt (h : SeqW w sb bb N P G L E V vis) {b : Nat} (hb : OfSeq sb bb N P G b) : b < w.heap.size := by
  have h1 := h.sbLt
  rcases hb with rfl | rfl | ⟨j, hj, rfl | rfl⟩
  · exact h.bl.lt
  · exact h1
  · have := h.ord j hj; omega
  · have := h.ord j hj; omega

theorem SeqW.ge (h : SeqW w sb bb N P G L E V vis) {b : Nat} (hb : OfSeq sb bb N P G b) : bb ≤ b := by
  have h1 := h.top
  rcases hb with rfl | rfl | ⟨j, hj, rfl | rfl⟩
  · exact Nat.le_refl _
  · omega
  · have := h.ord j hj; omega
  · have := h.ord j hj; omega

theorem SeqW.kept (h : SeqW w sb bb N P G L E V vis) (hb : Below w.heap.size w w') : SeqW w' sb bb N P G L E V vis :=
  h.carry (fun b hb' => hb.block b (h.lt hb'))

theorem ElRow.congr {g l j : Nat} {Ek Ek' : Nat → El} (h : ElRow w g l j Ek) (e : ∀ i, i < j → Ek' i = Ek i) : ElRow w g l j Ek' := by
  obtain ⟨c, h1, h2, h3⟩ := h
  exact ⟨c, h1, h2, fun i hi => by rw [e i hi]; exact h3 i hi⟩

theorem SeqW.congr (h : SeqW w sb bb N P G L E V vis) (eE : ∀ k j, k < N → j < L k → E' k j = E k j) (eV : ∀ k, k < N → V' k = V k) : SeqW w sb bb N P G L E' V' vis :=
  ⟨h.bl, h.ord, h.inc, fun j hj => by rw [eV j hj]; exact h.blk j hj, fun j hj => (h.els j hj).congr (fun i hi => eE j i hj hi), h.sq, h.top⟩

theorem SeqW.seqM (h : SeqW w sb bb N P G L E V vis) : SeqM w sb bb N N P G L L E V vis :=
  ⟨cell_of_blk h.sq rfl, cell_of_blk h.sq rfl, fun k hk => h.bl.cell hk, fun k hk => cell_of_blk (h.blk k hk) rfl, fun k hk => cell_of_blk (h.blk k hk) rfl,
    fun k hk j hj => ((h.els k hk).cells hj).1, fun k hk j hj => ((h.els k hk).cells hj).2.1, fun k hk j hj => ((h.els k hk).cells hj).2.2.1, fun k hk j hj => ((h.els k hk).cells hj).2.2.2⟩

theorem frozen_of_blk {b i : Nat} {c : Array Value} {t : TypeId} (h : w.heap[b]? = some (.cells c t (0, 0))) : w.frozen? ⟨b, i, none⟩ = false := by
  simp [World.frozen?, h]

theorem ElRow.frozen {g l j : Nat} {Ek : Nat → El} (h : ElRow w g l j Ek) (o : Nat) : w.frozen? ⟨g, o, none⟩ = false := by
  obtain ⟨c, h1, _⟩ := h
  exact frozen_of_blk h1

/-- A flag is set. -/
theorem ElRow.flag {g l i : Nat} {Ek : Nat → El} (h : ElRow w g l l Ek) (hi : i < l) : ElRow (w.setCell ⟨g, i * 4 + 3, none⟩ (.bool true)) g l l (fun j => if j = i then ⟨(Ek i).v, (Ek i).o, (Ek i).k, true⟩ else Ek j) := by
  obtain ⟨c, hc, hsz, hel⟩ := h
  refine ⟨_, blk_set1 hc, by simpa using hsz, fun j hj => ?_⟩
  have q := hel j hj
  have m0 : ¬ i * 4 + 3 = j * 4 := by omega
  have m1 : ¬ i * 4 + 3 = j * 4 + 1 := by omega
  have m2 : ¬ i * 4 + 3 = j * 4 + 2 := by omega
  simp only [Array.getElem?_setIfInBounds]
  rw [if_neg m0, if_neg m1, if_neg m2]
  by_cases e : j = i
  · subst e
    rw [if_pos rfl, if_pos rfl, if_pos (by omega)]
    exact ⟨q.1, q.2.1, q.2.2.1, rfl⟩
  · rw [if_neg e, if_neg (by omega)]
    exact q

/-- ONE ELEMENT IS TAKEN: its flag, its block's count, the sequence's count. -/
theorem SeqW.take (h : SeqW w sb bb N P G L E V vis) {b i : Nat} (hb : b < N) (hi : i < L b) (x y : Int) :
    SeqW (((w.setCell ⟨G b, i * 4 + 3, none⟩ (.bool true)).setCell ⟨P b, 1, none⟩ (.int .i64 x)).setCell ⟨sb, 2, none⟩ (.int .i64 y)) sb bb N P G L
      (fun k j => if k = b ∧ j = i then ⟨(E b i).v, (E b i).o, (E b i).k, true⟩ else E k j) (fun k => if k = b then x else V k) y := by
  have hob := h.ord b hb
  have far : ∀ c, c ≠ G b → c ≠ P b → c ≠ sb → (((w.setCell ⟨G b, i * 4 + 3, none⟩ (.bool true)).setCell ⟨P b, 1, none⟩ (.int .i64 x)).setCell ⟨sb, 2, none⟩ (.int .i64 y)).heap[c]? = w.heap[c]? := by
    intro c h1 h2 h3
    rw [Deep.blk_setCell_other _ _ _ _ h3, Deep.blk_setCell_other _ _ _ _ h2, Deep.blk_setCell_other _ _ _ _ h1]
  have sep : ∀ k, k < N → k ≠ b → P k ≠ G b ∧ P k ≠ P b ∧ G k ≠ G b ∧ G k ≠ P b := by
    intro k hk hne
    have hok := h.ord k hk
    rcases Nat.lt_or_gt_of_ne hne with hlt | hgt
    · have := h.inc k b hlt hb
      omega
    · have := h.inc b k hgt hk
      omega
  refine ⟨h.bl.of_block (far _ (by omega) (by omega) (by have := h.top; omega)), h.ord, h.inc, fun k hk => ?_, fun k hk => ?_, ?_, h.top⟩
  · have hok := h.ord k hk
    by_cases e : k = b
    · subst e
      rw [Deep.blk_setCell_other _ _ _ _ (show P k ≠ sb by omega), if_pos rfl]
      have := blk_set1 (a0 := 1) (v0 := .int .i64 x) (w := w.setCell ⟨G k, i * 4 + 3, none⟩ (.bool true)) (by rw [Deep.blk_setCell_other _ _ _ _ (show P k ≠ G k by omega)]; exact h.blk k hk)
      rw [this]
      rfl
    · have := sep k hk e
      rw [far _ this.1 this.2.1 (by omega), if_neg e]
      exact h.blk k hk
  · have hok := h.ord k hk
    by_cases e : k = b
    · subst e
      have q := ((h.els k hk).flag hi).of_block (w' := ((w.setCell ⟨G k, i * 4 + 3, none⟩ (.bool true)).setCell ⟨P k, 1, none⟩ (.int .i64 x)).setCell ⟨sb, 2, none⟩ (.int .i64 y))
        (by rw [Deep.blk_setCell_other _ _ _ _ (show G k ≠ sb by omega), Deep.blk_setCell_other _ _ _ _ (show G k ≠ P k by omega)])
      exact q.congr (fun j hj => by simp)
    · have := sep k hk e
      exact ((h.els k hk).of_block (far _ this.2.2.1 this.2.2.2 (by omega))).congr (fun j hj => by simp [e])
  · have := blk_set1 (a0 := 2) (v0 := .int .i64 y) (w := (w.setCell ⟨G b, i * 4 + 3, none⟩ (.bool true)).setCell ⟨P b, 1, none⟩ (.int .i64 x)) (by
      rw [Deep.blk_setCell_other _ _ _ _ (show sb ≠ P b by omega), Deep.blk_setCell_other _ _ _ _ (show sb ≠ G b by omega)]; exact h.sq)
    rw [this]
    rfl
end

/-- A row of events: for every place of a rank r + s, s < t, that is not removed, the s-th event is its own. -/
def EvRow (w : World) (g cap t N r : Nat) (L : Nat → Nat) (E : Nat → Nat → El) : Prop :=
  ∃ c : Array Value, w.heap[g]? = some (.cells c 41 (0, 0)) ∧ c.size = cap * 3 ∧
    ∀ k j s, k < N → j < L k → (E k j).r = false → s < t → rank (RR E) L k j = r + s → c[s * 3]? = some (.int .u64 (E k j).v) ∧ c[s * 3 + 1]? = some (.int .u64 (E k j).o) ∧ c[s * 3 + 2]? = some (.int .u8 (E k j).k)

section
variable {w w' : World} {g cap t N r : Nat} {L : Nat → Nat} {E : Nat → Nat → El}

theorem EvRow.of_block (h : EvRow w g cap t N r L E) (e : w'.heap[g]? = w.heap[g]?) : EvRow w' g cap t N r L E := by
  obtain ⟨c, h1, h2⟩ := h
  exact ⟨c, e.trans h1, h2⟩

theorem EvRow.lt (h : EvRow w g cap t N r L E) : g < w.heap.size := by
  obtain ⟨c, h1, _⟩ := h
  exact (Array.getElem?_eq_some_iff.1 h1).1

theorem EvRow.cells (h : EvRow w g cap t N r L E) {k j s : Nat} (hk : k < N) (hj : j < L k) (hr : (E k j).r = false) (hs : s < t) (he : rank (RR E) L k j = r + s) :
    w.cell? ⟨g, s * 3, none⟩ = some (.int .u64 (E k j).v) ∧ w.cell? ⟨g, s * 3 + 1, none⟩ = some (.int .u64 (E k j).o) ∧ w.cell? ⟨g, s * 3 + 2, none⟩ = some (.int .u8 (E k j).k) := by
  obtain ⟨c, h1, _, h3⟩ := h
  obtain ⟨a, b, d⟩ := h3 k j s hk hj hr hs he
  exact ⟨cell_of_blk h1 a, cell_of_blk h1 b, cell_of_blk h1 d⟩

theorem EvRow.spare (h : EvRow w g cap t N r L E) (ht : t < cap) (e : w'.heap[g]? = w.heap[g]?) (news : List Value) (hn : news.length = 3) :
    ∀ i, i < news.length → (w'.cell? ⟨g, 0 + t * 3 + i, none⟩).isSome = true ∧ w'.frozen? ⟨g, 0 + t * 3 + i, none⟩ = false := by
  obtain ⟨c, h1, h2, _⟩ := h
  intro i hi
  rw [← e] at h1
  simp only [World.cell?, World.frozen?, h1]
  simp
  omega

/-- The next event is laid. -/
theorem EvRow.put (h : EvRow w g cap t N r L E) (ht : t < cap) (e : w'.heap[g]? = w.heap[g]?) {b i : Nat} (hat : IsAt (RR E) L N (r + t) b i) :
    EvRow (w'.setCells g (0 + t * 3) [.int .u64 (E b i).v, .int .u64 (E b i).o, .int .u8 (E b i).k]) g cap (t + 1) N r L E := by
  obtain ⟨c, hc, hsz, hel⟩ := h
  rw [Nat.zero_add]
  show EvRow (((w'.setCell ⟨g, t * 3, none⟩ (.int .u64 (E b i).v)).setCell ⟨g, t * 3 + 1, none⟩ (.int .u64 (E b i).o)).setCell ⟨g, t * 3 + 2, none⟩ (.int .u8 (E b i).k)) g cap (t + 1) N r L E
  refine ⟨_, blk_set1 (blk_set1 (blk_set1 (e.trans hc))), by simpa using hsz, fun k j s hk hj hr hs he => ?_⟩
  by_cases es : s = t
  · subst es
    obtain ⟨rfl, rfl⟩ := isAt_unique (R := RR E) (L := L) (n := N) (p := r + s) ⟨hk, hj, hr, he⟩ hat
    simp [Array.getElem?_setIfInBounds, hsz]
    omega
  · have q := hel k j s hk hj hr (by omega) he
    have m0 : ¬ t * 3 = s * 3 := by omega
    have m1 : ¬ t * 3 + 1 = s * 3 := by omega
    have m2 : ¬ t * 3 + 2 = s * 3 := by omega
    have m3 : ¬ t * 3 = s * 3 + 1 := by omega
    have m4 : ¬ t * 3 + 2 = s * 3 + 1 := by omega
    have m5 : ¬ t * 3 = s * 3 + 2 := by omega
    have m6 : ¬ t * 3 + 1 = s * 3 + 2 := by omega
    simp only [Array.getElem?_setIfInBounds, m0, m1, m2, m3, m4, m5, m6, if_false, Nat.add_right_cancel_iff]
    exact q
end
end Go.Proofs.Qxb6603828a
