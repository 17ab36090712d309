import Derived.Test.Qxb6604549aSort
import Derived.Deep.RegionHeld3
import Derived.Deep.DrawnRows
namespace Go.Proofs.Qxb6604549a
open Go.RowKit
set_option linter.unusedVariables false
set_option linter.unusedSimpArgs false
attribute [local go_sem ↓] Go.wp_at_zero Go.wp_at_succ

theorem Try.info82 : (Try.prog.info? 82).map (fun i => (i.zero, i.size, i.bytes)) = some (some (.agg #[.int .u64 0, .int .u64 0, .int .u32 0, .bool false]), 4, 32) := by kernel_rfl
theorem Try.info80 : (Try.prog.info? 80).map (fun i => (i.zero, i.size, i.bytes)) = some (some (.slice none 0 0), 1, 24) := by kernel_rfl

/-- A row of spans being filled: the first j are laid. -/
def SpRow (w : World) (g l j : Nat) (Ek : Nat → Sp) : Prop :=
  ∃ c : Array Value, w.heap[g]? = some (.cells c 82 (0, 0)) ∧ c.size = l * 4 ∧
    ∀ i, i < j → c[i * 4]? = some (.int .u64 ((Ek i).c : Int)) ∧ c[i * 4 + 1]? = some (.int .u64 (Ek i).t) ∧ c[i * 4 + 2]? = some (.int .u32 (Ek i).k) ∧ c[i * 4 + 3]? = some (.bool (Ek i).h)

section
variable {w w' W : World} {g l j : Nat} {Ek : Nat → Sp}
theorem SpRow.of_block (h : SpRow w g l j Ek) (e : w'.heap[g]? = w.heap[g]?) : SpRow w' g l j Ek := by
  obtain ⟨c, h1, h2⟩ := h
  exact ⟨c, e.trans h1, h2⟩
theorem SpRow.lt (h : SpRow w g l j Ek) : g < w.heap.size := by
  obtain ⟨c, h1, _⟩ := h
  exact (Array.getElem?_eq_some_iff.1 h1).1
theorem SpRow.cells (h : SpRow w g l j Ek) {i : Nat} (hi : i < j) :
    w.cell? ⟨g, i * 4, none⟩ = some (.int .u64 ((Ek i).c : Int)) ∧ w.cell? ⟨g, i * 4 + 1, none⟩ = some (.int .u64 (Ek i).t) ∧ w.cell? ⟨g, i * 4 + 2, none⟩ = some (.int .u32 (Ek i).k) ∧ w.cell? ⟨g, i * 4 + 3, none⟩ = some (.bool (Ek i).h) := by
  obtain ⟨c, h1, _, h3⟩ := h
  obtain ⟨a, b, d, e⟩ := h3 i hi
  exact ⟨cell_of_blk h1 a, cell_of_blk h1 b, cell_of_blk h1 d, cell_of_blk h1 e⟩
theorem SpRow.room (h : SpRow w g l j Ek) (hj : j < l) :
    (∃ x0 x1 x2 x3, w.cell? ⟨g, j * 4, none⟩ = some x0 ∧ w.cell? ⟨g, j * 4 + 1, none⟩ = some x1 ∧ w.cell? ⟨g, j * 4 + 2, none⟩ = some x2 ∧ w.cell? ⟨g, j * 4 + 3, none⟩ = some x3) ∧ ∀ o, w.frozen? ⟨g, o, none⟩ = false := by
  obtain ⟨c, h1, h2, _⟩ := h
  refine ⟨⟨c[j * 4], c[j * 4 + 1], c[j * 4 + 2], c[j * 4 + 3], ?_, ?_, ?_, ?_⟩, fun o => ?_⟩ <;> simp [World.cell?, World.frozen?, h1]
theorem SpRow.put (h : SpRow w g l j Ek) (hj : j < l) (e2 : W.heap[g]? = w.heap[g]?) :
    SpRow ((((W.setCell ⟨g, j * 4, none⟩ (.int .u64 ((Ek j).c : Int))).setCell ⟨g, j * 4 + 1, none⟩ (.int .u64 (Ek j).t)).setCell ⟨g, j * 4 + 2, none⟩ (.int .u32 (Ek j).k)).setCell ⟨g, j * 4 + 3, none⟩ (.bool (Ek j).h)) g l (j + 1) Ek := by
  obtain ⟨c, hc, hsz, hel⟩ := h
  refine ⟨_, blk_set1 (blk_set1 (blk_set1 (blk_set1 (e2.trans hc)))), by simpa using hsz, fun i hi => ?_⟩
  by_cases e : i = j
  · subst e
    simp [Array.getElem?_setIfInBounds, hsz]
    omega
  · have := hel i (by omega)
    have m0 : ¬ j * 4 = i * 4 := by omega
    have m1 : ¬ j * 4 + 1 = i * 4 := by omega
    have m2 : ¬ j * 4 + 2 = i * 4 := by omega
    have m3 : ¬ j * 4 + 3 = i * 4 := by omega
    have m4 : ¬ j * 4 = i * 4 + 1 := by omega
    have m5 : ¬ j * 4 + 2 = i * 4 + 1 := by omega
    have m6 : ¬ j * 4 + 3 = i * 4 + 1 := by omega
    have m7 : ¬ j * 4 = i * 4 + 2 := by omega
    have m8 : ¬ j * 4 + 1 = i * 4 + 2 := by omega
    have m9 : ¬ j * 4 + 3 = i * 4 + 2 := by omega
    have m10 : ¬ j * 4 = i * 4 + 3 := by omega
    have m11 : ¬ j * 4 + 1 = i * 4 + 3 := by omega
    have m12 : ¬ j * 4 + 2 = i * 4 + 3 := by omega
    simp only [Array.getElem?_setIfInBounds, m0, m1, m2, m3, m4, m5, m6, m7, m8, m9, m10, m11, m12, if_false, Nat.add_right_cancel_iff]
    exact this
end

theorem cell_set4 {w : World} {g b o a0 a1 a2 a3 : Nat} {v0 v1 v2 v3 : Value} (h : b ≠ g) :
    ((((w.setCell ⟨g, a0, none⟩ v0).setCell ⟨g, a1, none⟩ v1).setCell ⟨g, a2, none⟩ v2).setCell ⟨g, a3, none⟩ v3).cell? ⟨b, o, none⟩ = w.cell? ⟨b, o, none⟩ := by
  have e : ∀ (w : World) (a : Nat) (v : Value), (w.setCell ⟨g, a, none⟩ v).cell? ⟨b, o, none⟩ = w.cell? ⟨b, o, none⟩ := fun w a v =>
    World.cell?_setCell_other _ _ _ _ (fun e => h (by have := congrArg Addr.block e; simp at this; omega))
  rw [e, e, e, e]

/-- What row i of the copy is. -/
def hdr (A : Nat → Option Addr) (S L : Nat → Nat) (i : Nat) : Value := if (A i).isNone then .slice none 0 0 else .slice (some ⟨S i, 0, none⟩) (L i) (L i)

/-- k rows are copied. -/
structure Reg (w wr : World) (n k : Nat) (A : Nat → Option Addr) (S L : Nat → Nat) (E : Nat → Nat → Sp) : Prop where
  below : Below w.heap.size w wr
  top : wr.rowIs w.heap.size 80 n (fun i => if i < k then hdr A S L i else .slice none 0 0)
  els : ∀ i, i < k → A i ≠ none → w.heap.size < S i ∧ SpRow wr (S i) (L i) (L i) (E i)

theorem Reg.carry {w wr wr' : World} {n k : Nat} {A : Nat → Option Addr} {S L : Nat → Nat} {E : Nat → Nat → Sp} (h : Reg w wr n k A S L E) (g : Nat) (hg0 : wr.heap.size ≤ g)
    (hb : Below w.heap.size w wr') (same : ∀ b, b < g → wr'.heap[b]? = wr.heap[b]?) : Reg w wr' n k A S L E :=
  ⟨hb, h.top.of_block (same _ (by have := h.top.lt; omega)), fun i hi ha => ⟨(h.els i hi ha).1, (h.els i hi ha).2.of_block (same _ (by have := (h.els i hi ha).2.lt; omega))⟩⟩

/-- Row k is being filled, in block g, which is new. -/
structure RegIn (w wr : World) (n k g j : Nat) (A : Nat → Option Addr) (S L : Nat → Nat) (E : Nat → Nat → Sp) : Prop where
  out : ∃ w0, Reg w w0 n k A S L E ∧ w0.heap.size ≤ g ∧ w.heap.size < g ∧ ∀ b, b < g → wr.heap[b]? = w0.heap[b]?
  below : Below w.heap.size w wr
  cur : SpRow wr g (L k) j (E k)

theorem regIn_start {w wr : World} {n k : Nat} {A : Nat → Option Addr} {S L : Nat → Nat} {E : Nat → Nat → Sp} (h : Reg w wr n k A S L E) :
    RegIn w (wr.alloc (.cells (madeCells #[.int .u64 0, .int .u64 0, .int .u32 0, .bool false] (L k * 4)) 82)) n k wr.heap.size 0 A S L E :=
  ⟨⟨wr, h, Nat.le_refl _, h.top.lt, fun b hb => Deep.blk_alloc_lt _ _ _ hb⟩, h.below.alloc h.below.size _, _, Deep.blk_alloc_new _ _, size_madeCells _ _, fun i hi => absurd hi (Nat.not_lt_zero _)⟩

theorem regIn_step {w wr : World} {n k g j : Nat} {A : Nat → Option Addr} {S L : Nat → Nat} {E : Nat → Nat → Sp} (h : RegIn w wr n k g j A S L E) (hj : j < L k) :
    RegIn w ((((wr.setCell ⟨g, j * 4, none⟩ (.int .u64 ((E k j).c : Int))).setCell ⟨g, j * 4 + 1, none⟩ (.int .u64 (E k j).t)).setCell ⟨g, j * 4 + 2, none⟩ (.int .u32 (E k j).k)).setCell ⟨g, j * 4 + 3, none⟩ (.bool (E k j).h)).drew n k g (j + 1) A S L E := by
  obtain ⟨w0, h0, h1, h2, h3⟩ := h.out
  refine ⟨⟨w0, h0, h1, h2, fun b hb => ?_⟩, ?_, (h.cur.put hj rfl).of_block rfl⟩
  · show ((((wr.setCell _ _).setCell _ _).setCell _ _).setCell _ _).heap[b]? = _
    rw [Deep.blk_setCell_other _ _ _ _ (show b ≠ g by omega), Deep.blk_setCell_other _ _ _ _ (show b ≠ g by omega), Deep.blk_setCell_other _ _ _ _ (show b ≠ g by omega), Deep.blk_setCell_other _ _ _ _ (show b ≠ g by omega)]
    exact h3 b hb
  · exact ((((h.below.setCell (p := ⟨g, j * 4, none⟩) (by show w.heap.size ≤ g; omega) _).setCell (p := ⟨g, j * 4 + 1, none⟩) (by show w.heap.size ≤ g; omega) _).setCell (p := ⟨g, j * 4 + 2, none⟩) (by show w.heap.size ≤ g; omega) _).setCell (p := ⟨g, j * 4 + 3, none⟩) (by show w.heap.size ≤ g; omega) _).drew

theorem reg_nil {w wr : World} {n k : Nat} {A : Nat → Option Addr} {S L : Nat → Nat} {E : Nat → Nat → Sp} (h : Reg w wr n k A S L E) (hA : A k = none) : Reg w wr n (k + 1) A S L E := by
  refine ⟨h.below, h.top.congr (fun i _ => ?_), fun i hi ha => h.els i (by have : i ≠ k := fun e => ha (e ▸ hA); omega) ha⟩
  by_cases e : i = k
  · subst e; rw [if_neg (Nat.lt_irrefl _), if_pos (by omega), hdr, hA]; rfl
  · by_cases hlt : i < k
    · rw [if_pos hlt, if_pos (by omega)]
    · rw [if_neg hlt, if_neg (by omega)]

theorem reg_next {w wr : World} {n k g : Nat} {A : Nat → Option Addr} {S L : Nat → Nat} {E : Nat → Nat → Sp} (h : RegIn w wr n k g (L k) A S L E) (hk : k < n) {a : Addr} (hA : A k = some a) :
    Reg w (wr.setCell ⟨w.heap.size, k, none⟩ (.slice (some ⟨g, 0, none⟩) (L k) (L k))) n (k + 1) A (upd S k g) L E := by
  obtain ⟨w0, h0, h1, h2, h3⟩ := h.out
  refine ⟨h.below.setCell (Nat.le_refl _) _, ?_, fun i hi ha => ?_⟩
  · have t0 : wr.rowIs w.heap.size 80 n (fun i => if i < k then hdr A S L i else .slice none 0 0) := h0.top.of_block (h3 _ h2)
    refine (t0.set k _).congr (fun i _ => ?_)
    by_cases e : i = k
    · subst e; rw [if_pos rfl, if_pos (by omega), hdr, hA, upd_at]; rfl
    · rw [if_neg e]
      have hh : hdr A (upd S k g) L i = hdr A S L i := by unfold hdr; rw [upd_ne S e]
      by_cases hlt : i < k
      · rw [if_pos hlt, if_pos (by omega), hh]
      · rw [if_neg hlt, if_neg (by omega)]
  · by_cases e : i = k
    · subst e
      rw [upd_at]
      exact ⟨h2, h.cur.of_block (Deep.blk_setCell_other _ _ _ _ (by show g ≠ w.heap.size; omega))⟩
    · rw [upd_ne S e]
      obtain ⟨q1, q2⟩ := h0.els i (by omega) ha
      have := q2.lt
      exact ⟨q1, q2.of_block (by rw [Deep.blk_setCell_other _ _ _ _ (by show S i ≠ w.heap.size; omega), h3 _ (by omega)])⟩

theorem run_make82 (n : Nat) (h : n ≤ 1048576) (w : World) : (Instr.makeSlice 80 (.int .i64 (n : Int)) (.int .i64 (n : Int))).run Try.prog w =
    .ok (.slice (some ⟨w.heap.size, 0, none⟩) n n) (w.alloc (.cells (madeCells #[.int .u64 0, .int .u64 0, .int .u32 0, .bool false] (n * 4)) 82)) := by
  obtain ⟨i, hi, hzz⟩ := Option.map_eq_some_iff.1 Try.info82
  simp only [Prod.mk.injEq] at hzz
  obtain ⟨hz, hs, hb⟩ := hzz
  have := run_make (P := Try.prog) w 80 82 i _ Try.underlying80 hi hz .i64 .i64 (n : Int) (n : Int) (by omega) (Int.le_refl _) (by rw [hb]; omega) (by omega)
  rw [this, hs]
  rfl

def RegRet (w : World) (n : Nat) (L : Nat → Nat) (E : Nat → Nat → Sp) (e : Ending) (w' : World) : Prop :=
  ∃ (ro : Option Addr) (B : Nat → Option Addr) (S : Nat → Nat), e = .returned (.slice ro n n) ∧ Arg w' ro n w.heap.size 0 B L L S (fun _ => 0) E ∧ Below w.heap.size w w'

theorem reg_arg {w wr : World} {ao : Option Addr} {n gb go : Nat} {A : Nat → Option Addr} {S L C RB RO : Nat → Nat} {E : Nat → Nat → Sp} (h : Arg w ao n gb go A L C RB RO E) (hR : Reg w wr n n A S L E) :
    Arg wr (some ⟨w.heap.size, 0, none⟩) n w.heap.size 0 (fun i => if (A i).isNone then none else some ⟨S i, 0, none⟩) L L S (fun _ => 0) E := by
  have hz : ∀ k, k < n → A k = none → L k = 0 := fun k hk ha => by
    rcases Nat.eq_zero_or_pos (L k) with e | e
    · exact e
    · have := h.lead k hk 0 e
      rw [ha] at this; cases this
  have hne : ∀ k, k < n → ∀ j, j < L k → A k ≠ none := fun k hk j hj ha => by have := hz k hk ha; omega
  have hcell : ∀ k, k < n → ∀ j, j < L k → _ := fun k hk j hj => (hR.els k hk (hne k hk j hj)).2.cells hj
  refine ⟨fun _ => rfl, fun k hk => ?_, fun k hk j hj => ?_, fun k hk j hj => ?_, fun k hk j hj => ?_, fun k hk j hj => ?_, fun k hk j hj => ?_, h.lc, h.nc, h.cc⟩
  · rw [Nat.zero_add, hR.top.cell hk, if_pos hk, hdr]
    by_cases e : (A k).isNone
    · rw [if_pos e, if_pos e, hz k hk (by simpa using e)]
    · rw [if_neg e, if_neg e]
  · have := hne k hk j hj
    rw [if_neg (by simpa using this)]
  · rw [Nat.zero_add]; exact (hcell k hk j hj).1
  · rw [Nat.zero_add]; exact (hcell k hk j hj).2.1
  · rw [Nat.zero_add]; exact (hcell k hk j hj).2.2.1
  · rw [Nat.zero_add]; exact (hcell k hk j hj).2.2.2

set_option maxRecDepth 100000 in
set_option maxHeartbeats 1000000 in
theorem reg15 {w : World} {ao : Option Addr} {n nc gb go : Nat} {A : Nat → Option Addr} {L C RB RO : Nat → Nat} {E : Nat → Nat → Sp} (h : Arg w ao n gb go A L C RB RO E) (hn : n ≤ 256) (hL : ∀ k, k < n → L k ≤ 1048576) :
    Calls Try.prog 15 #[.slice ao n nc] w fun e w' => RegRet w n L E e w' := by
  have q44 := fun (w : World) (a : Option Addr) (l c : Nat) => Lib.run_eql_slice_nil (P := Try.prog) w 44 72 a l c 0 0 Try.underlying44
  have q72 := fun (w : World) (a : Option Addr) (l c : Nat) => Lib.run_eql_slice_nil (P := Try.prog) w 72 74 a l c 0 0 Try.underlying72
  cases ao with
  | none =>
    have hn0 : n = 0 := by
      rcases Nat.eq_zero_or_pos n with e | e
      · exact e
      · have := h.ga e; cases this
    subst hn0
    go_enter Try.func15, Try.ntmps15
    go_wp2
    go_ret
    refine ⟨none, fun _ => none, fun _ => 0, rfl, ?_, Below.refl _ _⟩
    refine ⟨?_, ?_, ?_, ?_, ?_, ?_, ?_, ?_, ?_, ?_⟩ <;> intros <;> omega
  | some a0 =>
    have hmk := run_make_row' (P := Try.prog) 49 80 (.slice none 0 0) 24 Try.underlying49 Try.info80 rfl .i64 .i64 n (by omega) (by omega)
    go_enter Try.func15, Try.ntmps15
    go_wp2
    clear hmk
    go_loopw [4] (fun x wr => ∃ (k : Nat) (S : Nat → Nat), k ≤ n ∧ x = .int .i64 k ∧ Reg w wr n k A S L E) (fun x _ => n - (intOf x).toNat)
    case atStart => exact ⟨0, fun _ => 0, Nat.zero_le _, rfl, (Below.refl _ _).alloc (Nat.le_refl _) _, (World.rowIs_made w _ n 80).congr (fun i _ => by simp), fun i hi => absurd hi (Nat.not_lt_zero _)⟩
    case round =>
      obtain ⟨k, S, hk, rfl, hR⟩ := hrel
      by_cases hkn : k < n
      · have ha0 := h.ga (by omega)
        simp only [Option.some.injEq] at ha0
        subst ha0
        have h' := h.kept hR.below
        have hrow := h'.row k hkn
        have hl := hL k hkn
        have hmk := run_make82 (L k) hl
        have HR : Hid (Reg w wr n k A S L E) := hR
        clear hR
        cases hA : A k with
        | none =>
          rw [hA] at hrow
          go_wp2
          go_roundw
          case rel => exact ⟨k + 1, S, by omega, by go_num, reg_nil HR.out hA⟩
          case measure => simp [intOf]; omega
        | some ak =>
          rw [hA] at hrow
          obtain ⟨g, hgz⟩ : ∃ g, wr.heap.size = g := ⟨_, rfl⟩
          have HS := regIn_start HR.out
          rw [hgz] at HS
          have HS' : Hid (RegIn w (wr.alloc (.cells (madeCells #[.int .u64 0, .int .u64 0, .int .u32 0, .bool false] (L k * 4)) 82)) n k g 0 A S L E) := HS
          clear HS
          go_wp2
          clear hmk hrow
          go_loopw [7] (fun y wr => ∃ j : Nat, j ≤ L k ∧ y = .int .i64 j ∧ RegIn w wr n k g j A S L E) (fun y _ => L k - (intOf y).toNat)
          case atStart => exact ⟨0, Nat.zero_le _, rfl, HS'.out⟩
          case round =>
            clear HS' hgz HR h'
            obtain ⟨j, hj, rfl, hI⟩ := hrel
            by_cases hjl : j < L k
            · obtain ⟨⟨x0, x1, x2, x3, hx0, hx1, hx2, hx3⟩, hfz⟩ := hI.cur.room hjl
              have h' := h.kept hI.below
              have hak : ak = ⟨RB k, RO k, none⟩ := by
                have := h.lead k hkn j hjl
                rw [hA] at this
                exact Option.some.inj this
              subst hak
              have c0 := h'.c0 k hkn j hjl
              have c1 := h'.c1 k hkn j hjl
              have c2 := h'.c2 k hkn j hjl
              have c3 := h'.c3 k hkn j hjl
              have n2 : RB k ≠ g := by
                have := World.block_lt_of_cell? _ _ (h.c0 k hkn j hjl)
                obtain ⟨w0, _, _, q, _⟩ := hI.out
                simp at this; omega
              have jz0 : (0 : Int) ≤ (j : Int) := by omega
              have jz1 : (j : Int) < (L k : Int) := by omega
              have HI : Hid (RegIn w wr n k g j A S L E) := hI
              clear hI h' q44 q72
              go_wp2_with fail
              go_region_held3 (fun w' => w'.cell? ⟨RB k, RO k + j * 4, none⟩ = some (.int .u64 ((E k j).c : Int)) ∧ w'.cell? ⟨RB k, RO k + j * 4 + 1, none⟩ = some (.int .u64 (E k j).t) ∧ w'.cell? ⟨RB k, RO k + j * 4 + 2, none⟩ = some (.int .u32 (E k j).k) ∧ w'.cell? ⟨RB k, RO k + j * 4 + 3, none⟩ = some (.bool (E k j).h))
                (((try dsimp only); (try go_split_ands); refine ⟨?_, ?_, ?_, ?_⟩ <;> first | (rw [World.cell?_drew, cell_set4 n2]; assumption) | (rw [cell_set4 n2]; assumption) | (with_reducible assumption) | go_keep)) (fail)
              go_wp2
              go_roundw
              case rel => exact ⟨j + 1, by omega, by go_num, regIn_step HI.out hjl⟩
              case measure => simp [intOf]; omega
            · obtain rfl : L k = j := by omega
              have HI : Hid (RegIn w wr n k g (L k) A S L E) := hI
              obtain ⟨w0, h0, h1, h2, h3⟩ := hI.out
              have t0 : wr.rowIs w.heap.size 80 n (fun i => if i < k then hdr A S L i else .slice none 0 0) := h0.top.of_block (h3 _ h2)
              have tc := t0.cell hkn
              simp only [Nat.lt_irrefl, if_false] at tc
              have tf := t0.frozen k
              clear hI h0 h1 h2 h3 t0
              go_wp2
              go_roundw
              case rel => exact ⟨k + 1, upd S k g, by omega, by go_num, reg_next HI.out hkn hA⟩
              case measure => simp [intOf]; omega
      · obtain rfl : n = k := by omega
        have HR : Hid (Reg w wr n n A S L E) := hR
        clear hR
        go_wp2
        go_ret
        exact ⟨_, _, S, rfl, reg_arg h HR.out, HR.out.below⟩
end Go.Proofs.Qxb6604549a
