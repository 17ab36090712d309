import Derived.Test.Qxb6604549aClos
import Derived.Test.Qxb6604549aNs
import Derived.Deep.QuietTactic
import Derived.BigQuiet
namespace Go.Proofs.Qxb6604549a
open Go.RowKit
set_option linter.unusedVariables false
set_option linter.unusedSimpArgs false

theorem Try.info88 : (Try.prog.info? 88).map (fun i => (i.zero, i.size, i.bytes)) = some (some (.agg #[.slice none 0 0, .int .u64 0]), 2, 32) := by kernel_rfl

/-- The spans that are left of answer i at p. -/
def spv (S L : Nat → Nat) (E : Nat → Nat → Sp) (i p : Nat) : Value :=
  .slice (some ⟨S i, (if idx E L i p < L i then idx E L i p else L i - 1) * 4, none⟩) (L i - idx E L i p) (L i - idx E L i p)

/-- THE ROW rests: rest r stands at position q r. -/
def RRow (w : World) (g R cap : Nat) (q ν S L : Nat → Nat) (E : Nat → Nat → Sp) : Prop :=
  ∃ c : Array Value, w.heap[g]? = some (.cells c 88 (0, 0)) ∧ c.size = cap * 2 ∧ R ≤ cap ∧ ∀ r, r < R → c[r * 2]? = some (spv S L E (ν r) (q r)) ∧ c[r * 2 + 1]? = some (.int .u64 (lft E L (ν r) (q r) : Int))

section
variable {w w' : World} {g R cap : Nat} {q ν S L : Nat → Nat} {E : Nat → Nat → Sp}
theorem RRow.of_block (h : RRow w g R cap q ν S L E) (e : w'.heap[g]? = w.heap[g]?) : RRow w' g R cap q ν S L E := by
  obtain ⟨c, h1, h2⟩ := h
  exact ⟨c, e.trans h1, h2⟩
theorem RRow.lt (h : RRow w g R cap q ν S L E) : g < w.heap.size := by
  obtain ⟨c, h1, _⟩ := h
  exact (Array.getElem?_eq_some_iff.1 h1).1
theorem RRow.cells (h : RRow w g R cap q ν S L E) {r : Nat} (hr : r < R) : w.cell? ⟨g, r * 2, none⟩ = some (spv S L E (ν r) (q r)) ∧ w.cell? ⟨g, r * 2 + 1, none⟩ = some (.int .u64 (lft E L (ν r) (q r) : Int)) := by
  obtain ⟨c, h1, _, _, h3⟩ := h
  exact ⟨cell_of_blk h1 (h3 r hr).1, cell_of_blk h1 (h3 r hr).2⟩
theorem RRow.frozen (h : RRow w g R cap q ν S L E) (o : Nat) : w.frozen? ⟨g, o, none⟩ = false := by
  obtain ⟨c, h1, _⟩ := h
  exact frozen_of_blk h1
theorem RRow.congr {q' : Nat → Nat} (h : RRow w g R cap q ν S L E) (e : ∀ r, r < R → q' r = q r) : RRow w g R cap q' ν S L E := by
  obtain ⟨c, h1, h2, h3, h4⟩ := h
  exact ⟨c, h1, h2, h3, fun r hr => by rw [e r hr]; exact h4 r hr⟩
end

/-- One rest's two cells at p = 0. -/
def rc0 (S L : Nat → Nat) (E : Nat → Nat → Sp) (i : Nat) : List Value := [spv S L E i 0, .int .u64 (lft E L i 0 : Int)]

/-- THE STATE OF THE MEMORY while the sweep runs, from the world in which it began. -/
structure Sw (w wr : World) (ob : Nat) (out : List Stretch) : Prop where
  os : wr.os = w.os
  tape : wr.tape = w.tape
  output : wr.output = w.output
  size : w.heap.size ≤ wr.heap.size
  keep : ∀ b, b < w.heap.size → b ≠ ob → wr.heap[b]? = w.heap[b]?
  out : ∃ v, Out wr w.heap.size ob v out

theorem Sw.start {w : World} {ob : Nat} (h : w.heap[ob]? = some (.cells #[.slice none 0 0] 47 (0, 0))) : Sw w w ob [] :=
  ⟨rfl, rfl, rfl, Nat.le_refl _, fun _ _ _ => rfl, _, h, World.ownsRow_nil _ _ _ _⟩

theorem Out.of_blocks {w w' : World} {B ob : Nat} {v : Value} {l : List Stretch} (h : Out w B ob v l) (e : ∀ b, b < w.heap.size → w'.heap[b]? = w.heap[b]?) : Out w' B ob v l := by
  refine ⟨by rw [e ob h.lt]; exact h.var, h.own.1, ?_⟩
  rcases h.own.2 with q | ⟨g, cap, cur, hv, hg, hh, r⟩
  · exact Or.inl q
  · exact Or.inr ⟨g, cap, cur, hv, hg, by rw [e g (Array.getElem?_eq_some_iff.1 hh).1]; exact hh, r⟩

theorem Sw.kept {w wr w' : World} {ob : Nat} {out : List Stretch} (h : Sw w wr ob out) (hb : Below wr.heap.size wr w') : Sw w w' ob out := by
  obtain ⟨v, ho⟩ := h.out
  exact ⟨hb.os.trans h.os, hb.tape.trans h.tape, hb.output.trans h.output, Nat.le_trans h.size hb.size, fun b h1 h2 => by rw [hb.block b (by have := h.size; omega)]; exact h.keep b h1 h2, v, ho.of_blocks hb.block⟩

theorem Sw.grown {w wr w1 : World} {ob : Nat} {out : List Stretch} {row : Option Nat} (h : Sw w wr ob out) (hob : ob < w.heap.size) (hg : wr.grownBy w1 row) (hr : ∀ g, row = some g → w.heap.size ≤ g ∧ ∃ c m, wr.heap[g]? = some (.cells c 88 m)) : Sw w w1 ob out := by
  obtain ⟨v, ho⟩ := h.out
  have hsz := h.size
  have e1 : w1.heap[ob]? = wr.heap[ob]? := hg.block ob ho.lt (fun e => by have := (hr ob e.symm).1; omega)
  refine ⟨hg.os.trans h.os, hg.tape.trans h.tape, hg.output.trans h.output, Nat.le_trans h.size hg.size, fun b h1 h2 => ?_, v, by rw [e1]; exact ho.var, ho.own.1, ?_⟩
  · rw [hg.block b (by omega) (fun e => by have := (hr b e.symm).1; omega)]
    exact h.keep b h1 h2
  · rcases ho.own.2 with q | ⟨g, cap, cur, hv, hg', hh, r⟩
    · exact Or.inl q
    · refine Or.inr ⟨g, cap, cur, hv, hg', ?_, r⟩
      rw [hg.block g (Array.getElem?_eq_some_iff.1 hh).1 (fun e => by
        obtain ⟨_, c, m, hc⟩ := hr g e.symm
        rw [hh] at hc
        simp at hc)]
      exact hh

/-- A slice that is owned: where its row lies. -/
theorem own_row {w : World} {B : Nat} {t : TypeId} {sz : Nat} {v : Value} {n : Nat} {xs : List Value} (h : w.ownsRow B t sz v n xs) {g : Nat} (e : v.ownBlock = some g) : B ≤ g ∧ ∃ c m, w.heap[g]? = some (.cells c t m) := by
  rcases h.2 with ⟨rfl, _⟩ | ⟨g', cap, cur, rfl, hg, hh, _⟩
  · simp [Value.ownBlock] at e
  · simp [Value.ownBlock] at e
    subst e
    exact ⟨hg, cur, (0, 0), hh⟩

/-- The arguments' memory, seen from a round. -/
theorem Sw.arg {w wr : World} {ob : Nat} {out : List Stretch} (h : Sw w wr ob out) {ro : Option Addr} {n rb : Nat} {A : Nat → Option Addr} {L C S O : Nat → Nat} {E : Nat → Nat → Sp} (ha : Arg w ro n rb 0 A L C S O E)
    (hrb : n ≠ 0 → rb ≠ ob) (hS : ∀ k, k < n → ∀ j, j < L k → S k ≠ ob) : Arg wr ro n rb 0 A L C S O E := by
  have kc : ∀ {a : Addr} {v : Value}, a.block ≠ ob → w.cell? a = some v → wr.cell? a = some v := fun {a v} hne hc => by
    rw [World.cell?_of_block (w := w) (h.keep _ (World.block_lt_of_cell? _ _ hc) hne)]; exact hc
  exact ⟨ha.ga, fun k hk => kc (hrb (by omega)) (ha.row k hk), ha.lead, fun k hk j hj => kc (hS k hk j hj) (ha.c0 k hk j hj), fun k hk j hj => kc (hS k hk j hj) (ha.c1 k hk j hj),
    fun k hk j hj => kc (hS k hk j hj) (ha.c2 k hk j hj), fun k hk j hj => kc (hS k hk j hj) (ha.c3 k hk j hj), ha.lc, ha.nc, ha.cc⟩

/-- The same with the offsets struck. -/
structure Arg0 (w : World) (ro : Option Addr) (n rb : Nat) (A : Nat → Option Addr) (L C S : Nat → Nat) (E : Nat → Nat → Sp) : Prop where
  row : ∀ k, k < n → w.cell? ⟨rb, k, none⟩ = some (.slice (A k) (L k) (C k))
  lead : ∀ k, k < n → 0 < L k → A k = some ⟨S k, 0, none⟩
  c0 : ∀ k, k < n → ∀ j, j < L k → w.cell? ⟨S k, j * 4, none⟩ = some (.int .u64 ((E k j).c : Int))
  c1 : ∀ k, k < n → ∀ j, j < L k → w.cell? ⟨S k, j * 4 + 1, none⟩ = some (.int .u64 (E k j).t)
  c2 : ∀ k, k < n → ∀ j, j < L k → w.cell? ⟨S k, j * 4 + 2, none⟩ = some (.int .u32 (E k j).k)
  c3 : ∀ k, k < n → ∀ j, j < L k → w.cell? ⟨S k, j * 4 + 3, none⟩ = some (.bool (E k j).h)

theorem Arg.zero {w : World} {ro : Option Addr} {n rb : Nat} {A : Nat → Option Addr} {L C S : Nat → Nat} {E : Nat → Nat → Sp} (h : Arg w ro n rb 0 A L C S (fun _ => 0) E) : Arg0 w ro n rb A L C S E :=
  ⟨fun k hk => by have := h.row k hk; rwa [Nat.zero_add] at this, fun k hk h0 => h.lead k hk 0 h0, fun k hk j hj => by have := h.c0 k hk j hj; rwa [Nat.zero_add] at this, fun k hk j hj => by have := h.c1 k hk j hj; rwa [Nat.zero_add] at this,
    fun k hk j hj => by have := h.c2 k hk j hj; rwa [Nat.zero_add] at this, fun k hk j hj => by have := h.c3 k hk j hj; rwa [Nat.zero_add] at this⟩

theorem info88p : ∃ ti, Try.prog.info? 88 = some ti ∧ ti.zero = some (.agg #[.slice none 0 0, .int .u64 0]) ∧ ti.size = 2 ∧ ti.bytes = 32 := by
  obtain ⟨ti, h0, h1, h2, h3⟩ := info_parts Try.info88
  exact ⟨ti, h0, h1, h2, h3⟩

theorem rc0_at {S L : Nat → Nat} {E : Nat → Nat → Sp} {i : Nat} (hp : ∀ j, j < L i → 0 < (E i j).c) (hl : 0 < L i) : rc0 S L E i = [.slice (some ⟨S i, 0, none⟩) (L i) (L i), .int .u64 ((E i 0).c : Int)] := by
  have h0 := idx_zero hp hl
  have hx : 0 < ext E L i := by
    have := st_mono E i (show 1 ≤ L i by omega)
    have q : st E i 1 = (E i 0).c := by show 0 + (E i 0).c = _; omega
    have := hp 0 hl
    show 0 < st E i (L i)
    omega
  unfold rc0 spv lft
  rw [h0, if_pos hl, if_pos hx]
  have q : st E i (0 + 1) = (E i 0).c := by show 0 + (E i 0).c = _; omega
  rw [q]
  simp

/-- The row of rests, out of what is owned. -/
theorem rrow_of {w : World} {B : Nat} {v : Value} {l : List Nat} {S L : Nat → Nat} {E : Nat → Nat → Sp} (h : w.ownsRow B 88 2 v l.length (l.flatMap (rc0 S L E))) :
    ∃ (ga : Option Addr) (g cap : Nat), v = .slice ga l.length cap ∧ (0 < l.length → ga = some ⟨g, 0, none⟩ ∧ B ≤ g ∧ RRow w g l.length cap (fun _ => 0) (fun r => l.getD r 0) S L E) := by
  rcases h.2 with ⟨rfl, h0⟩ | ⟨g, cap, cur, rfl, hg, hh, h1, h2, h3, h4⟩
  · exact ⟨none, 0, 0, by rw [h0], fun q => by omega⟩
  · refine ⟨_, g, cap, rfl, fun _ => ⟨rfl, hg, cur, hh, h3, h1, fun r hr => ?_⟩⟩
    have key : ∀ (l : List Nat) (r : Nat), r < l.length → (l.flatMap (rc0 S L E))[r * 2]? = some (spv S L E (l.getD r 0) 0) ∧ (l.flatMap (rc0 S L E))[r * 2 + 1]? = some (.int .u64 (lft E L (l.getD r 0) 0 : Int)) := by
      intro l
      induction l with
      | nil => intro r hr; simp at hr
      | cons x l ih =>
        intro r hr
        cases r with
        | zero => exact ⟨rfl, rfl⟩
        | succ r =>
          have := ih r (by simpa using hr)
          rw [show (r + 1) * 2 = r * 2 + 2 by omega]
          exact this
    have hk := key l r hr
    rw [← h4] at hk
    have b1 : r * 2 < l.length * 2 := by omega
    have b2 : r * 2 + 1 < l.length * 2 := by omega
    rw [List.getElem?_take_of_lt b1, List.getElem?_take_of_lt b2] at hk
    simpa using hk

/-- Rest r of the row, opened: node i, its spans from cell 'of' on, 'sl' of them, 'lf' sectors left of the first. -/
structure RestAt (w : World) (g r n i of sl lf p : Nat) (S L : Nat → Nat) (E : Nat → Nat → Sp) : Prop where
  k0 : w.cell? ⟨g, r * 2, none⟩ = some (.slice (some ⟨S i, of, none⟩) sl sl)
  k1 : w.cell? ⟨g, r * 2 + 1, none⟩ = some (.int .u64 (lf : Int))
  hi : i < n
  hl : 0 < L i
  slb : sl ≤ 1048576
  lfb : lf ≤ 18446744073709551615
  lf' : lf = lft E L i p
  yes : p < ext E L i → 0 < sl ∧ of = idx E L i p * 4 ∧ idx E L i p < L i ∧ sl = L i - idx E L i p
  no : ¬ p < ext E L i → sl = 0

theorem rest_at {w : World} {g R cap n cn r : Nat} {q S L : Nat → Nat} {E : Nat → Nat → Sp} {ns : List Nat} (hns : ns = nsTo L n) (hR : ns.length = R) (h : RRow w g R cap q (fun r => ns.getD r 0) S L E) (hr : r < R)
    (hcn : cn ≤ 18446744073709551615) (hp : Prem n L E cn) (hL : ∀ k, k < n → L k ≤ 1048576) :
    ∃ i of sl lf, i = ns.getD r 0 ∧ RestAt w g r n i of sl lf (q r) S L E := by
  have hlen : r < ns.length := by omega
  have hmem : ns.getD r 0 < n ∧ 0 < L (ns.getD r 0) := nsTo_mem (by rw [← hns]; simp [List.getD, hlen])
  obtain ⟨k0, k1⟩ := h.cells hr
  refine ⟨ns.getD r 0, _, _, _, rfl, k0, k1, hmem.1, hmem.2, ?_, ?_, rfl, fun hx => ?_, fun hx => ?_⟩
  · have := hL _ hmem.1; omega
  · have q1 := lft_le (E := E) (L := L) (i := ns.getD r 0) (hp _ hmem.1).1 (q r)
    have q2 := (hp _ hmem.1).2
    unfold ext at q1
    omega
  · have := idx_lt (hp _ hmem.1).1 hx
    exact ⟨by omega, by rw [if_pos this], this, rfl⟩
  · rw [idx_ge (hp _ hmem.1).1 (by omega)]; omega

theorem RestAt.kept {w w' : World} {g r n i of sl lf p : Nat} {S L : Nat → Nat} {E : Nat → Nat → Sp} (h : RestAt w g r n i of sl lf p S L E) (hb : Below w.heap.size w w') : RestAt w' g r n i of sl lf p S L E :=
  ⟨cell_kept hb h.k0, cell_kept hb h.k1, h.hi, h.hl, h.slb, h.lfb, h.lf', h.yes, h.no⟩

/-- The first span that is left, opened. -/
structure HeadAt (w : World) (i of p : Nat) (S L : Nat → Nat) (E : Nat → Nat → Sp) : Prop where
  c0 : w.cell? ⟨S i, of, none⟩ = some (.int .u64 ((E i (idx E L i p)).c : Int))
  c1 : w.cell? ⟨S i, of + 1, none⟩ = some (.int .u64 (E i (idx E L i p)).t)
  c2 : w.cell? ⟨S i, of + 1 + 1, none⟩ = some (.int .u32 (E i (idx E L i p)).k)
  c3 : w.cell? ⟨S i, of + 3, none⟩ = some (.bool (E i (idx E L i p)).h)

theorem head_at {w w0 : World} {ro : Option Addr} {g r n rb i of sl lf p : Nat} {A : Nat → Option Addr} {C S L : Nat → Nat} {E : Nat → Nat → Sp} (hA : Arg0 w ro n rb A L C S E) (h : RestAt w0 g r n i of sl lf p S L E) (hx : p < ext E L i) : HeadAt w i of p S L E := by
  obtain ⟨_, e, hl, _⟩ := h.yes hx
  rw [e]
  exact ⟨hA.c0 i h.hi _ hl, hA.c1 i h.hi _ hl, hA.c2 i h.hi _ hl, hA.c3 i h.hi _ hl⟩

theorem HeadAt.kept {w w' : World} {i of p : Nat} {S L : Nat → Nat} {E : Nat → Nat → Sp} (h : HeadAt w i of p S L E) (hb : Below w.heap.size w w') : HeadAt w' i of p S L E :=
  ⟨cell_kept hb h.c0, cell_kept hb h.c1, cell_kept hb h.c2, cell_kept hb h.c3⟩

/-- The tag's variable, and what lies below it. -/
structure Tg (w wx : World) (tb : Nat) (t k : Int) : Prop where
  var : wx.heap[tb]? = some (.cells #[.int .u64 t, .int .u32 k] 39 (0, 0))
  low : Below tb w wx

theorem Tg.start (w : World) : Tg w (w.alloc (.cells #[.int .u64 0, .int .u32 0] 39)) w.heap.size 0 0 :=
  ⟨Deep.blk_alloc_new _ _, (Below.refl _ _).alloc (Nat.le_refl _) _⟩

theorem Tg.lt {w wx : World} {tb : Nat} {t k : Int} (h : Tg w wx tb t k) : tb < wx.heap.size := lt_of_block h.var

theorem Tg.kept {w wx w' : World} {tb : Nat} {t k : Int} (h : Tg w wx tb t k) (hb : Below wx.heap.size wx w') : Tg w w' tb t k :=
  ⟨by rw [hb.block tb h.lt]; exact h.var, h.low.trans (hb.mono (Nat.le_of_lt h.lt))⟩

theorem Tg.set {w wx : World} {tb : Nat} {t k : Int} (h : Tg w wx tb t k) (t' k' : Int) : Tg w ((wx.setCell ⟨tb, 0, none⟩ (.int .u64 t')).setCell ⟨tb, 1, none⟩ (.int .u32 k')) tb t' k' :=
  ⟨by have := blk_set1 (a0 := 1) (v0 := .int .u32 k') (blk_set1 (a0 := 0) (v0 := .int .u64 t') h.var); rw [this]; rfl, (h.low.setCell (p := ⟨tb, 0, none⟩) (Nat.le_refl _) _).setCell (p := ⟨tb, 1, none⟩) (Nat.le_refl _) _⟩

/-- What lies below the tag's variable is as it was. -/
theorem Tg.full {w wx : World} {t k : Int} (h : Tg w wx w.heap.size t k) : Below w.heap.size w wx := h.low

/-- Behind the closure. -/
theorem sw_clos {w wr w4 : World} {ob : Nat} {v : Value} {out : List Stretch} {s : Stretch} {e : Ending} (h : Sw w wr ob out) (hO : Out wr w.heap.size ob v out) (hobl : ob < w.heap.size) (hc : ClosRet wr w.heap.size ob v out s e w4) : Sw w w4 ob (out ++ [s]) := by
  obtain ⟨_, hv, h1, h2, h3, h4, h5⟩ := hc
  refine ⟨h1.trans h.os, h2.trans h.tape, h3.trans h.output, Nat.le_trans h.size h4, fun b hb hne => ?_, hv⟩
  rw [h5 b (by have := h.size; omega) hne (fun e => by have := (own_row hO.own e.symm).1; omega)]
  exact h.keep b hb hne

theorem rrow_clos {wr w4 : World} {B ob g R cap : Nat} {v : Value} {out : List Stretch} {s : Stretch} {e : Ending} {q ν S L : Nat → Nat} {E : Nat → Nat → Sp} (h : RRow wr g R cap q ν S L E) (hO : Out wr B ob v out) (hgo : g ≠ ob) (hc : ClosRet wr B ob v out s e w4) : RRow w4 g R cap q ν S L E := by
  obtain ⟨_, _, _, _, _, _, h5⟩ := hc
  obtain ⟨c, hh, hr⟩ := h
  exact ⟨c, (h5 g (lt_of_block hh) hgo (hO.other hh (by decide))).trans hh, hr⟩

/-- A store into the row of rests. -/
theorem Sw.setRest {w wr : World} {ob g : Nat} {out : List Stretch} (h : Sw w wr ob out) (hobl : ob < w.heap.size) (hg : w.heap.size ≤ g) {c : Array Value} (hh : wr.heap[g]? = some (.cells c 88 (0, 0))) (o : Nat) (x : Value) : Sw w (wr.setCell ⟨g, o, none⟩ x) ob out := by
  obtain ⟨v, hO⟩ := h.out
  have hne : some g ≠ v.ownBlock := hO.other hh (by decide)
  refine ⟨h.os, h.tape, h.output, by rw [World.size_setCell]; exact h.size, fun b hb hb' => by rw [Deep.blk_setCell_other _ _ _ _ (show b ≠ g by omega)]; exact h.keep b hb hb', v, ?_, ?_⟩
  · rw [Deep.blk_setCell_other _ _ _ _ (show ob ≠ g by omega)]; exact hO.var
  · exact ownsRow_setCell_other hO.own (a := ⟨g, o, none⟩) (fun e => hne e.symm) x

/-- Rest r moves on by c sectors. -/
theorem RRow.move {w w' : World} {g R cap r p c : Nat} {q ν S L : Nat → Nat} {E : Nat → Nat → Sp} (h : RRow w g R cap q ν S L E) (hr : r < R) {c' : Array Value} (hc' : w'.heap[g]? = some (.cells c' 88 (0, 0)))
    (hoth : ∀ (c0 : Array Value), w.heap[g]? = some (.cells c0 88 (0, 0)) → c'.size = c0.size ∧ ∀ o, o ≠ r * 2 → o ≠ r * 2 + 1 → c'[o]? = c0[o]?)
    (h0 : c'[r * 2]? = some (spv S L E (ν r) p)) (h1 : c'[r * 2 + 1]? = some (.int .u64 (lft E L (ν r) p : Int))) : RRow w' g R cap (fun x => if x = r then p else q x) ν S L E := by
  obtain ⟨c0, hh, hsz, hcap, hall⟩ := h
  obtain ⟨e1, e2⟩ := hoth c0 hh
  refine ⟨c', hc', by rw [e1]; exact hsz, hcap, fun x hx => ?_⟩
  by_cases e : x = r
  · subst e
    simp only [if_true]
    exact ⟨h0, h1⟩
  · simp only [e, if_false]
    rw [e2 _ (by omega) (by omega), e2 _ (by omega) (by omega)]
    exact hall x hx

/-- The state of the rests, the first r of them moved on by b: one more. -/
theorem rr_next {w : World} {g R cap r p b : Nat} {ν S L : Nat → Nat} {E : Nat → Nat → Sp} (h : RRow w g R cap (fun x => if x = r then p + b else (if x < r then p + b else p)) ν S L E) : RRow w g R cap (fun x => if x < r + 1 then p + b else p) ν S L E :=
  h.congr (fun x _ => by
    by_cases e : x = r
    · subst e; simp
    · simp only [e, if_false]
      by_cases hlt : x < r
      · rw [if_pos hlt, if_pos (by omega)]
      · rw [if_neg hlt, if_neg (by omega)])

theorem rr_stay {w : World} {g R cap r p b : Nat} {ν S L : Nat → Nat} {E : Nat → Nat → Sp} (h : RRow w g R cap (fun x => if x < r then p + b else p) ν S L E) (hr : r < R) (hp : ∀ j, j < L (ν r) → 0 < (E (ν r) j).c) (hx : ¬ p < ext E L (ν r)) :
    RRow w g R cap (fun x => if x < r + 1 then p + b else p) ν S L E := by
  have e1 : idx E L (ν r) (p + b) = idx E L (ν r) p := by rw [idx_ge hp (by omega), idx_ge hp (by omega)]
  have e2 : lft E L (ν r) (p + b) = lft E L (ν r) p := by unfold lft; rw [if_neg hx, if_neg (by omega)]
  have hcells := h
  obtain ⟨c, hh, hsz, hcap, hall⟩ := h
  have h0 := hall r hr
  simp only [Nat.lt_irrefl, if_false] at h0
  refine rr_next (RRow.move (p := p + b) (c := b) hcells hr hh (fun c0 hc0 => ?_) ?_ ?_)
  · rw [hh] at hc0
    simp at hc0
    subst hc0
    exact ⟨rfl, fun _ _ _ => rfl⟩
  · rw [h0.1]; unfold spv; rw [e1]
  · rw [h0.2, e2]

theorem rr_in {w : World} {g R cap r p b : Nat} {ν S L : Nat → Nat} {E : Nat → Nat → Sp} (h : RRow w g R cap (fun x => if x < r then p + b else p) ν S L E) (hr : r < R) (hp : ∀ j, j < L (ν r) → 0 < (E (ν r) j).c) (hx : p < ext E L (ν r)) (hb : b < lft E L (ν r) p) (z : Int) (hz : z = ((lft E L (ν r) p - b : Nat) : Int)) :
    RRow (w.setCell ⟨g, r * 2 + 1, none⟩ (.int .u64 z)) g R cap (fun x => if x < r + 1 then p + b else p) ν S L E := by
  obtain ⟨s1, s2, s3⟩ := step_in hp hx hb
  have hcells := h
  obtain ⟨c, hh, hsz, hcap, hall⟩ := h
  have h0 := hall r hr
  simp only [Nat.lt_irrefl, if_false] at h0
  refine rr_next (RRow.move (p := p + b) (c := b) hcells hr (blk_set1 hh) (fun c0 hc0 => ?_) ?_ ?_)
  · rw [hh] at hc0
    simp at hc0
    subst hc0
    exact ⟨by simp, fun o _ h2 => by rw [Array.getElem?_setIfInBounds, if_neg (fun e => h2 e.symm)]⟩
  · rw [Array.getElem?_setIfInBounds, if_neg (by omega), h0.1]
    unfold spv; rw [s2]
  · rw [Array.getElem?_setIfInBounds, if_pos rfl, if_pos (by omega), s3, hz]

theorem rr_last {w : World} {g R cap r p b of : Nat} {ν S L : Nat → Nat} {E : Nat → Nat → Sp} (h : RRow w g R cap (fun x => if x < r then p + b else p) ν S L E) (hr : r < R) (hp : ∀ j, j < L (ν r) → 0 < (E (ν r) j).c) (hx : p < ext E L (ν r)) (hb : b = lft E L (ν r) p)
    (hl : idx E L (ν r) p + 1 = L (ν r)) (hof : of = idx E L (ν r) p * 4) (z : Int) (hz : z = 0) :
    RRow ((w.setCell ⟨g, r * 2 + 1, none⟩ (.int .u64 z)).setCell ⟨g, r * 2, none⟩ (.slice (some ⟨S (ν r), of, none⟩) 0 0)) g R cap (fun x => if x < r + 1 then p + b else p) ν S L E := by
  obtain ⟨s1, _, s3⟩ := step_out hp hx
  rw [← hb] at s1 s3
  have hend := s3 hl
  have hcells := h
  obtain ⟨c, hh, hsz, hcap, hall⟩ := h
  refine rr_next (RRow.move (p := p + b) (c := b) hcells hr (blk_set1 (blk_set1 hh)) (fun c0 hc0 => ?_) ?_ ?_)
  · rw [hh] at hc0
    simp at hc0
    subst hc0
    exact ⟨by simp, fun o h1 h2 => by rw [Array.getElem?_setIfInBounds, if_neg (fun e => h1 e.symm), Array.getElem?_setIfInBounds, if_neg (fun e => h2 e.symm)]⟩
  · rw [Array.getElem?_setIfInBounds, if_pos rfl, if_pos (by simp; omega)]
    unfold spv
    rw [s1, hl, if_neg (Nat.lt_irrefl _), Nat.sub_self, hof, show L (ν r) - 1 = idx E L (ν r) p by omega]
  · rw [Array.getElem?_setIfInBounds, if_neg (by omega), Array.getElem?_setIfInBounds, if_pos rfl, if_pos (by omega), hz]
    unfold lft
    rw [if_neg (by omega)]
    rfl

theorem rr_over {w : World} {g R cap r p b of sl : Nat} {ν S L : Nat → Nat} {E : Nat → Nat → Sp} (h : RRow w g R cap (fun x => if x < r then p + b else p) ν S L E) (hr : r < R) (hp : ∀ j, j < L (ν r) → 0 < (E (ν r) j).c) (hx : p < ext E L (ν r)) (hb : b = lft E L (ν r) p)
    (hl : idx E L (ν r) p + 1 < L (ν r)) (hof : of = idx E L (ν r) p * 4) (hsl : sl = L (ν r) - idx E L (ν r) p) (z : Int) :
    RRow (((w.setCell ⟨g, r * 2 + 1, none⟩ (.int .u64 z)).setCell ⟨g, r * 2, none⟩ (.slice (some ⟨S (ν r), of + 4, none⟩) (sl - 1) (sl - 1))).setCell ⟨g, r * 2 + 1, none⟩ (.int .u64 ((E (ν r) (idx E L (ν r) p + 1)).c : Int))) g R cap (fun x => if x < r + 1 then p + b else p) ν S L E := by
  obtain ⟨s1, s2, _⟩ := step_out hp hx
  rw [← hb] at s1 s2
  obtain ⟨s4, s5⟩ := s2 hl
  have hcells := h
  obtain ⟨c, hh, hsz, hcap, hall⟩ := h
  refine rr_next (RRow.move (p := p + b) (c := b) hcells hr (blk_set1 (blk_set1 (blk_set1 hh))) (fun c0 hc0 => ?_) ?_ ?_)
  · rw [hh] at hc0
    simp at hc0
    subst hc0
    exact ⟨by simp, fun o h1 h2 => by rw [Array.getElem?_setIfInBounds, if_neg (fun e => h2 e.symm), Array.getElem?_setIfInBounds, if_neg (fun e => h1 e.symm), Array.getElem?_setIfInBounds, if_neg (fun e => h2 e.symm)]⟩
  · rw [Array.getElem?_setIfInBounds, if_neg (by omega), Array.getElem?_setIfInBounds, if_pos rfl, if_pos (by simp; omega)]
    unfold spv
    rw [s1, if_pos hl, hof, hsl, show L (ν r) - idx E L (ν r) p - 1 = L (ν r) - (idx E L (ν r) p + 1) by omega, show idx E L (ν r) p * 4 + 4 = (idx E L (ν r) p + 1) * 4 by omega]
  · rw [Array.getElem?_setIfInBounds, if_pos rfl, if_pos (by simp; omega), s5]

def SwRet (w : World) (n ob : Nat) (L : Nat → Nat) (E : Nat → Nat → Sp) (e : Ending) (w' : World) : Prop :=
  e = .returned (.tuple #[]) ∧ ∃ out F, Sw w w' ob out ∧ chain E L n out 0 F ∧ reach E L F n ≤ n / 2

set_option maxRecDepth 100000 in
set_option maxHeartbeats 6000000 in
theorem sweep27 {w : World} {ro : Option Addr} {n rb sv ob : Nat} {A : Nat → Option Addr} {L S : Nat → Nat} {E : Nat → Nat → Sp} (h : Arg w ro n rb 0 A L L S (fun _ => 0) E) (hn : n ≤ 256) (hL : ∀ k, k < n → L k ≤ 1048576) (hsum : sumN L n ≤ 4096)
    {cn : Nat} (hcn : cn ≤ 18446744073709551615) (hp : Prem n L E cn) (hsv : w.cell? ⟨sv, 1, none⟩ = some (.slice ro n n)) (hso : sv ≠ ob) (hrb : n ≠ 0 → rb ≠ ob) (hSo : ∀ k, k < n → ∀ j, j < L k → S k ≠ ob)
    (hob : w.heap[ob]? = some (.cells #[.slice none 0 0] 47 (0, 0))) :
    Calls Try.prog 27 #[.pointer (some ⟨sv, 0, none⟩), .func (.func 28) #[] #[.pointer (some ⟨ob, 0, none⟩)]] w fun e w' => SwRet w n ob L E e w' := by
  have Hp : Hid (Prem n L E cn) := hp
  have Hob : Hid (w.heap[ob]? = some (.cells #[.slice none 0 0] 47 (0, 0))) := hob
  clear hp hob
  obtain ⟨ti, hti⟩ := info88p
  have HI : Hid (Try.prog.info? 88 = some ti ∧ ti.zero = some (.agg #[.slice none 0 0, .int .u64 0]) ∧ ti.size = 2 ∧ ti.bytes = 32) := hti
  clear hti
  go_enter Try.func27, Try.ntmps27
  go_wp2_with fail
  go_loopw [4, 25] (fun v x wr => ∃ k : Nat, k ≤ n ∧ x = .int .i64 k ∧ Sw w wr ob [] ∧ wr.ownsRow w.heap.size 88 2 v (nsTo L k).length ((nsTo L k).flatMap (rc0 S L E))) (fun _ x _ => n - (intOf x).toNat)
  case atStart => exact ⟨0, Nat.zero_le _, rfl, Sw.start Hob.out, World.ownsRow_nil _ _ _ _⟩
  case round =>
    obtain ⟨k, hk, rfl, hS, hown⟩ := hrel
    by_cases hkn : k < n
    · obtain rfl := h.ga (by omega)
      have h' := (hS.arg h hrb hSo).zero
      have hrow := h'.row k hkn
      have hl := hL k hkn
      have HS : Hid (Sw w wr ob []) := hS
      have Hown : Hid (wr.ownsRow w.heap.size 88 2 u4 (nsTo L k).length ((nsTo L k).flatMap (rc0 S L E))) := hown
      have hwz : w.heap.size ≤ wr.heap.size := hS.size
      have hns := nsTo_len L k
      clear hS hown
      by_cases hl0 : 0 < L k
      · have hrow' := hrow
        rw [h'.lead k hkn hl0] at hrow'
        have hc0 : wr.cell? ⟨S k, 0, none⟩ = some (.int .u64 ((E k 0).c : Int)) := by have := h'.c0 k hkn 0 hl0; simpa using this
        have lz : (0 : Int) < (L k : Int) := by omega
        clear hrow
        go_wp2_with (at_builtin; refine wpList_append_lies _ rfl _ _ 86 rfl w.heap.size 88 ti _ 2 32 Try.underlying86 HI.out.1 HI.out.2.1 HI.out.2.2.1 HI.out.2.2.2 rfl (by omega) u4 (nsTo L k).length ((nsTo L k).flatMap (rc0 S L E)) rfl ?qown ⟨wr.heap.size, 0, none⟩ 1 1 [.slice (some ⟨S k, 0, none⟩) (L k) (L k), .int .u64 ((E k 0).c : Int)] rfl rfl ?qnews ?q1 (by omega) ?q63 ?qby ?qb (wr.heap.size + 1) ?qH ?_)
        case qown => exact Hown.out.alloc _
        case qnews => exact World.news_of_block (cs := #[.slice (some ⟨S k, 0, none⟩) (L k) (L k), .int .u64 ((E k 0).c : Int)]) (t := 88) (fr := (0, 0)) (Deep.blk_alloc_new _ _)
        case q1 => simp [Value.oneCell']
        case q63 => unfold maxLen; omega
        case qby => omega
        case qb => simp; omega
        case qH => simp
        intro g cap w1 hown1 hgrow hat hlt
        have hown2 : w1.ownsRow w.heap.size 88 2 (.slice (some ⟨g, 0, none⟩) ((nsTo L k).length + 1) cap) (nsTo L (k + 1)).length ((nsTo L (k + 1)).flatMap (rc0 S L E)) := by
          have e : nsTo L (k + 1) = nsTo L k ++ [k] := by show (if 0 < L k then _ else _) = _; rw [if_pos hl0]
          rw [e, List.length_append, List.flatMap_append]
          have e2 : [k].flatMap (rc0 S L E) = [.slice (some ⟨S k, 0, none⟩) (L k) (L k), .int .u64 ((E k 0).c : Int)] := by
            rw [← rc0_at (S := S) (Hp.out k hkn).1 hl0]; simp
          rw [e2]
          exact hown1
        have hSw : Sw w w1 ob [] := (HS.out.kept ((Below.refl _ _).alloc (Nat.le_refl _) _)).grown (lt_of_block Hob.out) hgrow (fun g e => own_row (Hown.out.alloc _) e)
        have HX : Hid (w1.ownsRow w.heap.size 88 2 (.slice (some ⟨g, 0, none⟩) ((nsTo L k).length + 1) cap) (nsTo L (k + 1)).length ((nsTo L (k + 1)).flatMap (rc0 S L E)) ∧ Sw w w1 ob []) := ⟨hown2, hSw⟩
        clear hown1 hown2 hgrow hat hSw
        go_wp2
        go_roundw
        case rel => exact ⟨k + 1, by omega, by go_num, HX.out.2, HX.out.1⟩
        case measure => simp [intOf]; omega
      · have hz : L k = 0 := by omega
        have e : nsTo L (k + 1) = nsTo L k := by show (if 0 < L k then _ else _) = _; rw [if_neg hl0]
        have d0 : decide ((0 : Int) < (L k : Int)) = false := by simp; omega
        go_wp2
        go_roundw
        case rel => exact ⟨k + 1, by omega, by go_num, HS.out, by rw [e]; exact Hown.out⟩
        case measure => simp [intOf]; omega
    · obtain rfl : n = k := by omega
      obtain ⟨ga, g, cap, hv, hrr⟩ := rrow_of hown
      have hwz := hS.size
      have hobl : ob < w.heap.size := lt_of_block Hob.out
      have hsvl : sv < w.heap.size := World.block_lt_of_cell? _ _ hsv
      subst hv
      obtain ⟨ns, hns⟩ : ∃ ns, ns = nsTo L n := ⟨_, rfl⟩
      rw [← hns] at hrr ⊢
      have hnl : ns.length ≤ n := by rw [hns]; exact nsTo_len L n
      have Hns : Hid (ns = nsTo L n) := hns
      obtain ⟨R, hR⟩ : ∃ R, ns.length = R := ⟨_, rfl⟩
      rw [hR] at hrr hnl ⊢
      have HR : Hid (ns.length = R) := hR
      have HS : Hid (Sw w wr ob []) := hS
      have Hrr : Hid (0 < R → ga = some ⟨g, 0, none⟩ ∧ w.heap.size ≤ g ∧ RRow wr g R cap (fun _ => 0) (fun r => ns.getD r 0) S L E) := hrr
      clear hS hown hrr hns hR
      go_wp2_with fail
      go_loopg [7] cn (fun gk x wr => ∃ (p : Nat) (out : List Stretch), p ≤ cn ∧ gk = cn - p ∧ Sw w wr ob out ∧ chain E L n out 0 p ∧ (0 < R → ga = some ⟨g, 0, none⟩ ∧ w.heap.size ≤ g ∧ RRow wr g R cap (fun _ => p) (fun r => ns.getD r 0) S L E))
      case atStart => exact ⟨0, [], Nat.zero_le _, rfl, HS.out, rfl, Hrr.out⟩
      case round =>
        clear HS Hrr
        obtain ⟨p, out, hpc, rfl, hS, hch, hrr⟩ := hrel
        have HS : Hid (Sw w wr ob out) := hS
        have Hch : Hid (chain E L n out 0 p) := hch
        have Hrr : Hid (0 < R → ga = some ⟨g, 0, none⟩ ∧ w.heap.size ≤ g ∧ RRow wr g R cap (fun _ => p) (fun r => ns.getD r 0) S L E) := hrr
        have HA : Hid (Arg0 wr ro n rb A L L S E) := (hS.arg h hrb hSo).zero
        have hsv' : wr.cell? ⟨sv, 1, none⟩ = some (.slice ro n n) := by
          rw [World.cell?_of_block (w := w) (hS.keep sv hsvl hso)]; exact hsv
        have Hsv : Hid (wr.cell? ⟨sv, 1, none⟩ = some (.slice ro n n)) := hsv'
        clear hS hch hrr hsv'
        have hRn : R ≤ 256 := by omega
        obtain ⟨w0, hw0⟩ : ∃ w0, w0 = wr := ⟨_, rfl⟩
        subst hw0
        go_wp2_with fail
        -- reach and count
        go_loopw [7, 8, 44] (fun s u y wx => ∃ (r a b : Nat), r ≤ R ∧ y = .int .i64 r ∧ s = .int .i64 a ∧ u = .int .u64 b ∧ a ≤ r ∧ b ≤ 18446744073709551615 ∧ Hid (a = reachL E L p (ns.take r) 0 ∧ b = leastL E L p (ns.take r) 18446744073709551615) ∧ Below w0.heap.size w0 wx) (fun _ _ y _ => R - (intOf y).toNat)
        case atStart => exact ⟨0, 0, 18446744073709551615, Nat.zero_le _, rfl, rfl, rfl, Nat.le_refl _, Nat.le_refl _, ⟨rfl, rfl⟩, Below.refl _ _⟩
        case round =>
          obtain ⟨r, a, b, hr, rfl, rfl, rfl, har, hb1, hab, hbel⟩ := hrel
          by_cases hrR : r < R
          · obtain ⟨rfl, hgw, hrow⟩ := Hrr.out (by omega)
            obtain ⟨i, of, sl, lf, hi, hra⟩ := rest_at Hns.out HR.out hrow hrR hcn Hp.out hL
            have hra' := hra.kept hbel
            have k0 := hra'.k0
            have k1 := hra'.k1
            have hslb := hra.slb
            have hlfb := hra.lfb
            have htk : Hid (ns.take (r + 1) = ns.take r ++ [i]) := by
              rw [hi]
              exact take_next ns (by rw [HR.out]; exact hrR)
            have rz : (r : Int) < (R : Int) := by omega
            have Hra : Hid (RestAt w0 g r n i of sl lf p S L E) := hra
            have Hbel : Hid (Below w0.heap.size w0 wr) := hbel
            clear hra hra' hi hrow hbel
            by_cases hx : p < ext E L i
            · have hsl0 := (Hra.out.yes hx).1
              have d1 : decide ((0 : Int) < (sl : Int)) = true := by simp; omega
              have Hx : Hid (p < ext E L i) := hx
              clear hx
              go_wp2_with fail
              go_roundw
              case rel =>
                refine ⟨r + 1, a + 1, min b lf, by omega, by go_num, by go_num, ?_, by omega, by omega, ⟨?_, ?_⟩, Hbel.out.alloc Hbel.out.size _⟩
                · by_cases q : lf < b
                  · rw [if_pos q, Nat.min_eq_right (by omega)]
                  · rw [if_neg q, Nat.min_eq_left (by omega)]
                · rw [htk.out, reachL_snoc, if_pos Hx.out, ← hab.out.1]
                · rw [htk.out, leastL_snoc, if_pos Hx.out, ← hab.out.2, ← Hra.out.lf']
              case measure => simp [intOf]; omega
            · have hsl0 := Hra.out.no hx
              have Hx : Hid (¬ p < ext E L i) := hx
              clear hx
              subst hsl0
              go_wp2_with fail
              go_roundw
              case rel =>
                refine ⟨r + 1, a, b, by omega, by go_num, by go_num, rfl, by omega, by omega, ⟨?_, ?_⟩, Hbel.out.alloc Hbel.out.size _⟩
                · rw [htk.out, reachL_snoc, if_neg Hx.out, ← hab.out.1]; rfl
                · rw [htk.out, leastL_snoc, if_neg Hx.out, ← hab.out.2]
              case measure => simp [intOf]; omega
          · obtain rfl : R = r := by omega
            have hA : a = reach E L p n := by
              have := hab.out.1
              rw [List.take_of_length_le (by rw [HR.out]; exact Nat.le_refl _), Hns.out, reachL_ns] at this
              exact this
            have hB : b = least E L p n := by
              have := hab.out.2
              rw [List.take_of_length_le (by rw [HR.out]; exact Nat.le_refl _), Hns.out, leastL_ns] at this
              exact this
            have HA1 : Hid (a = reach E L p n) := hA
            have HB1 : Hid (b = least E L p n) := hB
            have hsv1 := cell_kept hbel Hsv.out
            have Hbel : Hid (Below w0.heap.size w0 wr) := hbel
            clear hA hB hab hbel
            by_cases hh : a ≤ n / 2
            · have d2 : decide ((a : Int) ≤ (n : Int) / 2) = true := by simp; omega
              go_wp2_with fail
              go_end0
              exact ⟨rfl, out, p, HS.out.kept Hbel.out, Hch.out, by rw [← HA1.out]; exact hh⟩
            · have d2 : decide ((a : Int) ≤ (n : Int) / 2) = false := by simp; omega
              obtain ⟨w1, hw1⟩ : ∃ w1, w1 = wr := ⟨_, rfl⟩
              subst hw1
              obtain ⟨tb, htb⟩ : ∃ tb, w1.heap.size = tb := ⟨_, rfl⟩
              have HT0 : Hid (Tg w1 (w1.alloc (.cells #[.int .u64 0, .int .u32 0] 39)) tb 0 0) := by rw [← htb]; exact Tg.start w1
              have Htb : Hid (w1.heap.size = tb) := htb
              go_wp2_with fail
              clear htb
              -- the votes
              go_loopw [12, 69] (fun s y wx => ∃ (r vt : Nat) (t k : Int), r ≤ R ∧ y = .int .i64 r ∧ s = .int .i64 vt ∧ vt ≤ 256 ∧ Hid (((t, k), vt) = pick (holes E L p n) ((0, 0), 0) (holesL E L p (ns.take r) [])) ∧ Tg w1 wx tb t k) (fun _ y _ => R - (intOf y).toNat)
              case atStart => exact ⟨0, 0, 0, 0, Nat.zero_le _, rfl, rfl, Nat.zero_le _, rfl, HT0.out⟩
              case round =>
                clear HT0 hsv1
                obtain ⟨r, vt, t, k, hr, rfl, rfl, hvt, hpk, hT⟩ := hrel
                by_cases hrR : r < R
                · obtain ⟨rfl, hgw, hrow⟩ := Hrr.out (by omega)
                  obtain ⟨i, of, sl, lf, hi, hra⟩ := rest_at Hns.out HR.out hrow hrR hcn Hp.out hL
                  have hlow : Below w1.heap.size w1 wr := by rw [Htb.out]; exact hT.low
                  have hbel : Below w0.heap.size w0 wr := Hbel.out.trans (hlow.mono Hbel.out.size)
                  have hra' := hra.kept hbel
                  have k0 := hra'.k0
                  have k1 := hra'.k1
                  have hslb := hra.slb
                  have hlfb := hra.lfb
                  have htk : Hid (ns.take (r + 1) = ns.take r ++ [i]) := by
                    rw [hi]
                    exact take_next ns (by rw [HR.out]; exact hrR)
                  have rz : (r : Int) < (R : Int) := by omega
                  have Hra : Hid (RestAt w0 g r n i of sl lf p S L E) := hra
                  have Hb : Hid (Below w0.heap.size w0 wr) := hbel
                  have HT : Hid (Tg w1 wr tb t k) := hT
                  clear hra hra' hi hrow hbel hlow hT
                  by_cases hx : p < ext E L i
                  · have hsl0 := (Hra.out.yes hx).1
                    have hd := (head_at HA.out Hra.out hx).kept Hb.out
                    have Hd : Hid (HeadAt w0 i of p S L E) := head_at HA.out Hra.out hx
                    have d3 : ((sl : Int) == 0) = false := by rw [beq_eq_false_iff_ne]; omega
                    have lz : (0 : Int) < (sl : Int) := by omega
                    have q1 := hd.c1
                    have q2 := hd.c2
                    have q3 := hd.c3
                    have Hx : Hid (p < ext E L i) := hx
                    clear hd hx
                    cases hh3 : (E i (idx E L i p)).h
                    · rw [hh3] at q3
                      have q3 := cell_old q3
                      go_wp2_with fail
                      go_roundw
                      case rel =>
                        refine ⟨r + 1, vt, t, k, by omega, by go_num, rfl, hvt, ?_, HT.out.kept ((Below.refl _ _).alloc (Nat.le_refl _) _)⟩
                        show _ = _
                        rw [htk.out, holesL_snoc, if_neg (fun q => by rw [hh3] at q; cases q.2), List.append_nil]
                        exact hpk.out
                      case measure => simp [intOf]; omega
                    · rw [hh3] at q3
                      obtain ⟨xt, hxt⟩ : ∃ xt, xt = (E i (idx E L i p)).t := ⟨_, rfl⟩
                      obtain ⟨xk, hxk⟩ : ∃ xk, xk = (E i (idx E L i p)).k := ⟨_, rfl⟩
                      rw [← hxt] at q1
                      rw [← hxk] at q2
                      have Hxx : Hid (xt = (E i (idx E L i p)).t ∧ xk = (E i (idx E L i p)).k ∧ (E i (idx E L i p)).h = true) := ⟨hxt, hxk, hh3⟩
                      have q1 := cell_old q1
                      have q2 := cell_old q2
                      have q3 := cell_old q3
                      clear hxt hxk hh3
                      go_wp2_with fail
                      have Hb2 : Hid (Below wr.heap.size wr (wr.alloc (.cells #[.slice (some ⟨S i, of, none⟩) sl sl, .int .u64 (lf : Int)] 88))) := (Below.refl _ _).alloc (Nat.le_refl _) _
                      have l0 : (wr.alloc (.cells #[.slice (some ⟨S i, of, none⟩) sl sl, .int .u64 (lf : Int)] 88)).cell? ⟨wr.heap.size, 0, none⟩ = some (.slice (some ⟨S i, of, none⟩) sl sl) := cell_of_blk (Deep.blk_alloc_new _ _) rfl
                      have q1 := q1 (.cells #[.slice (some ⟨S i, of, none⟩) sl sl, .int .u64 (lf : Int)] 88)
                      have q2 := q2 (.cells #[.slice (some ⟨S i, of, none⟩) sl sl, .int .u64 (lf : Int)] 88)
                      clear q3
                      have Hbw : Hid (Below w0.heap.size w0 (wr.alloc (.cells #[.slice (some ⟨S i, of, none⟩) sl sl, .int .u64 (lf : Int)] 88))) := Hb.out.trans (Hb2.out.mono Hb.out.size)
                      generalize (wr.alloc (.cells #[.slice (some ⟨S i, of, none⟩) sl sl, .int .u64 (lf : Int)] 88)) = w2 at q1 q2 l0 Hb2 Hbw ⊢
                      generalize wr.heap.size = lb at l0 ⊢
                      have L0 : Hid (w2.cell? ⟨lb, 0, none⟩ = some (.slice (some ⟨S i, of, none⟩) sl sl) ∧ w2.cell? ⟨S i, of + 1, none⟩ = some (.int .u64 xt) ∧ w2.cell? ⟨S i, of + 1 + 1, none⟩ = some (.int .u32 xk)) := ⟨l0, q1, q2⟩
                      clear l0 q1 q2 k0 k1
                      go_loopw [15, 87] (fun s y wx => ∃ (o c : Nat), o ≤ R ∧ y = .int .i64 o ∧ s = .int .i64 c ∧ c ≤ o ∧ Hid (c = cnt (xt, xk) (holesL E L p (ns.take o) [])) ∧ Below w2.heap.size w2 wx) (fun _ y _ => R - (intOf y).toNat)
                      case atStart => exact ⟨0, 0, Nat.zero_le _, rfl, rfl, Nat.le_refl _, rfl, Below.refl _ _⟩
                      case round =>
                        obtain ⟨o, c, ho, rfl, rfl, hco, hcn', hbx⟩ := hrel
                        have l0 := cell_old (cell_kept hbx L0.out.1)
                        have q1 := cell_old (cell_kept hbx L0.out.2.1)
                        have q2 := cell_old (cell_kept hbx L0.out.2.2)
                        by_cases hoR : o < R
                        · obtain ⟨_, _, hrow⟩ := Hrr.out (by omega)
                          obtain ⟨j, of2, sl2, lf2, hj, hrb2⟩ := rest_at Hns.out HR.out hrow hoR hcn Hp.out hL
                          have hbel : Below w0.heap.size w0 wr := Hbw.out.trans (hbx.mono Hbw.out.size)
                          have hrb3 := hrb2.kept hbel
                          have k0 := hrb3.k0
                          have k1 := hrb3.k1
                          have hslb2 := hrb2.slb
                          have hlfb2 := hrb2.lfb
                          have htk2 : Hid (ns.take (o + 1) = ns.take o ++ [j]) := by
                            rw [hj]
                            exact take_next ns (by rw [HR.out]; exact hoR)
                          have oz : (o : Int) < (R : Int) := by omega
                          have Hrb : Hid (RestAt w0 g o n j of2 sl2 lf2 p S L E) := hrb2
                          have Hbx : Hid (Below w2.heap.size w2 wr) := hbx
                          clear hrb2 hrb3 hj hrow hbx
                          by_cases hx2 : p < ext E L j
                          · have hsl2 := (Hrb.out.yes hx2).1
                            have hd2 := (head_at HA.out Hrb.out hx2).kept hbel
                            have d5 : decide ((0 : Int) < (sl2 : Int)) = true := by simp; omega
                            have lz2 : (0 : Int) < (sl2 : Int) := by omega
                            have p1 := hd2.c1
                            have p2 := hd2.c2
                            have p3 := hd2.c3
                            have Hx2 : Hid (p < ext E L j) := hx2
                            clear hd2 hx2 hbel
                            cases hh4 : (E j (idx E L j p)).h
                            · rw [hh4] at p3
                              have p3 := cell_old p3
                              go_wp2_with fail
                              go_quiet (fail)
                              go_wp2_with fail
                              go_roundw
                              case rel =>
                                refine ⟨o + 1, c, by omega, by go_num, rfl, by omega, ?_, below_drewN (Hbx.out.alloc Hbx.out.size _) _⟩
                                show _ = _
                                rw [htk2.out, holesL_snoc, if_neg (fun q => by rw [hh4] at q; cases q.2), List.append_nil]
                                exact hcn'.out
                              case measure => simp [intOf]; omega
                            · rw [hh4] at p3
                              obtain ⟨yt, hyt⟩ : ∃ yt, yt = (E j (idx E L j p)).t := ⟨_, rfl⟩
                              obtain ⟨yk, hyk⟩ : ∃ yk, yk = (E j (idx E L j p)).k := ⟨_, rfl⟩
                              rw [← hyt] at p1
                              rw [← hyk] at p2
                              have Hyy : Hid (yt = (E j (idx E L j p)).t ∧ yk = (E j (idx E L j p)).k ∧ (E j (idx E L j p)).h = true) := ⟨hyt, hyk, hh4⟩
                              have p1 := cell_old p1
                              have p2 := cell_old p2
                              have p3 := cell_old p3
                              clear hyt hyk hh4
                              have hstep : Hid (cnt (xt, xk) (holesL E L p (ns.take (o + 1)) []) = c + (if (yt, yk) = (xt, xk) then 1 else 0)) := by
                                show _ = _
                                rw [htk2.out, holesL_snoc, if_pos ⟨Hx2.out, Hyy.out.2.2⟩, cnt_append, ← Hyy.out.1, ← Hyy.out.2.1, ← hcn'.out]
                                rfl
                              by_cases ey : yt = xt
                              · have d6 : (yt == xt) = true := by rw [beq_iff_eq]; exact ey
                                by_cases ek : yk = xk
                                · have d7 : (yk == xk) = true := by rw [beq_iff_eq]; exact ek
                                  have Hey : Hid (yt = xt ∧ yk = xk) := ⟨ey, ek⟩
                                  clear ey ek
                                  go_wp2_with fail
                                  go_quiet (fail)
                                  go_wp2_with fail
                                  go_roundw
                                  case rel =>
                                    refine ⟨o + 1, c + 1, by omega, by go_num, by go_num, by omega, ?_, below_drewN (Hbx.out.alloc Hbx.out.size _) _⟩
                                    show _ = _
                                    rw [hstep.out, Hey.out.1, Hey.out.2, if_pos rfl]
                                  case measure => simp [intOf]; omega
                                · have d7 : (yk == xk) = false := by rw [beq_eq_false_iff_ne]; exact ek
                                  have Hek : Hid (¬ yk = xk) := ek
                                  clear ey ek
                                  go_wp2_with fail
                                  go_quiet (fail)
                                  go_wp2_with fail
                                  go_roundw
                                  case rel =>
                                    refine ⟨o + 1, c, by omega, by go_num, rfl, by omega, ?_, below_drewN (Hbx.out.alloc Hbx.out.size _) _⟩
                                    show _ = _
                                    rw [hstep.out, if_neg (fun q => Hek.out (congrArg Prod.snd q))]; rfl
                                  case measure => simp [intOf]; omega
                              · have d6 : (yt == xt) = false := by rw [beq_eq_false_iff_ne]; exact ey
                                have Hek : Hid (¬ yt = xt) := ey
                                clear ey
                                go_wp2_with fail
                                go_quiet (fail)
                                go_wp2_with fail
                                go_roundw
                                case rel =>
                                  refine ⟨o + 1, c, by omega, by go_num, rfl, by omega, ?_, below_drewN (Hbx.out.alloc Hbx.out.size _) _⟩
                                  show _ = _
                                  rw [hstep.out, if_neg (fun q => Hek.out (congrArg Prod.fst q))]; rfl
                                case measure => simp [intOf]; omega
                          · have hsl2 := Hrb.out.no hx2
                            have Hx2 : Hid (¬ p < ext E L j) := hx2
                            clear hx2 hbel
                            subst hsl2
                            have d5 : decide ((0 : Int) < 0) = false := by simp
                            go_wp2_with fail
                            go_quiet (fail)
                            go_wp2_with fail
                            go_roundw
                            case rel =>
                              refine ⟨o + 1, c, by omega, by go_num, rfl, by omega, ?_, below_drewN (Hbx.out.alloc Hbx.out.size _) _⟩
                              show _ = _
                              rw [htk2.out, holesL_snoc, if_neg (fun q => Hx2.out q.1), List.append_nil]
                              exact hcn'.out
                            case measure => simp [intOf]; omega
                        · obtain rfl : R = o := by omega
                          have hcf : c = cnt (xt, xk) (holes E L p n) := by
                            have := hcn'.out
                            rw [List.take_of_length_le (by rw [HR.out]; exact Nat.le_refl _), Hns.out, holesL_ns] at this
                            exact this
                          have Hcf : Hid (c = cnt (xt, xk) (holes E L p n)) := hcf
                          have hT2 := (HT.out.kept Hb2.out).kept hbx
                          have HT2 : Hid (Tg w1 wr tb t k) := hT2
                          have tc0 : wr.cell? ⟨tb, 0, none⟩ = some (.int .u64 t) := cell_of_blk hT2.var rfl
                          have tc1 : wr.cell? ⟨tb, 1, none⟩ = some (.int .u32 k) := cell_of_blk hT2.var rfl
                          have tf : ∀ o, wr.frozen? ⟨tb, o, none⟩ = false := fun o => frozen_of_blk hT2.var
                          have l0 := cell_kept hbx L0.out.1
                          have q1 := cell_kept hbx L0.out.2.1
                          have q2 := cell_kept hbx L0.out.2.2
                          have hnext : Hid (pick (holes E L p n) ((0, 0), 0) (holesL E L p (ns.take (r + 1)) []) = if vt < c then ((xt, xk), c) else ((t, k), vt)) := by
                            show _ = _
                            rw [htk.out, holesL_snoc, if_pos ⟨Hx.out, Hxx.out.2.2⟩, pick_snoc, ← hpk.out, ← Hxx.out.1, ← Hxx.out.2.1, ← Hcf.out]
                          clear hcf hT2 hcn'
                          by_cases hvc : vt < c
                          · have d8 : decide ((vt : Int) < (c : Int)) = true := by simp; omega
                            go_wp2_with fail
                            go_roundw
                            case rel => exact ⟨r + 1, c, xt, xk, by omega, by go_num, rfl, by omega, by show _ = _; rw [hnext.out, if_pos hvc], HT2.out.set xt xk⟩
                            case measure => simp [intOf]; omega
                          · have d8 : decide ((vt : Int) < (c : Int)) = false := by simp; omega
                            go_wp2_with fail
                            go_roundw
                            case rel => exact ⟨r + 1, vt, t, k, by omega, by go_num, rfl, by omega, by show _ = _; rw [hnext.out, if_neg hvc], HT2.out⟩
                            case measure => simp [intOf]; omega
                  · have hsl0 := Hra.out.no hx
                    have Hx : Hid (¬ p < ext E L i) := hx
                    clear hx
                    subst hsl0
                    go_wp2_with fail
                    go_roundw
                    case rel =>
                      refine ⟨r + 1, vt, t, k, by omega, by go_num, rfl, hvt, ?_, HT.out.kept ((Below.refl _ _).alloc (Nat.le_refl _) _)⟩
                      show _ = _
                      rw [htk.out, holesL_snoc, if_neg (fun q => Hx.out q.1), List.append_nil]
                      exact hpk.out
                    case measure => simp [intOf]; omega
                · obtain rfl : R = r := by omega
                  have hpf : ((t, k), vt) = pick (holes E L p n) ((0, 0), 0) (holes E L p n) := by
                    have := hpk.out
                    rw [List.take_of_length_le (by rw [HR.out]; exact Nat.le_refl _), Hns.out, holesL_ns] at this
                    exact this
                  have hst : stretchAt E L n p = ⟨b, t, k, vt⟩ := by
                    unfold stretchAt
                    rw [← hpf, ← HB1.out]
                  have Hst : Hid (stretchAt E L n p = ⟨b, t, k, vt⟩) := hst
                  have hrp : 0 < reach E L p n := by rw [← HA1.out]; omega
                  have hlow : Below w1.heap.size w1 wr := by rw [Htb.out]; exact hT.low
                  have hbel : Below w0.heap.size w0 wr := Hbel.out.trans (hlow.mono Hbel.out.size)
                  have hSr := HS.out.kept hbel
                  obtain ⟨v, hO⟩ := hSr.out
                  have hlen : out.length ≤ 4096 := by
                    have := chain_short hcn Hp.out Hch.out
                    omega
                  have tc0 : wr.cell? ⟨tb, 0, none⟩ = some (.int .u64 t) := cell_of_blk hT.var rfl
                  have tc1 : wr.cell? ⟨tb, 1, none⟩ = some (.int .u32 k) := cell_of_blk hT.var rfl
                  have HCl : Hid (Calls Try.prog 28 #[.int .u64 (b : Int), .agg #[.int .u64 t, .int .u32 k], .int .i64 (vt : Int), .pointer (some ⟨ob, 0, none⟩)] wr fun e w' => ClosRet wr w.heap.size ob v out ⟨b, t, k, vt⟩ e w') :=
                    clos28 hO hSr.size (by omega) ⟨b, t, k, vt⟩
                  have HSr : Hid (Sw w wr ob out) := hSr
                  have HO : Hid (Out wr w.heap.size ob v out) := hO
                  have Hb : Hid (Below w0.heap.size w0 wr) := hbel
                  clear hpf hst hlow hbel hSr hO hT
                  go_wp2_with fail
                  refine HCl.out.mono ?_
                  intro e w4 hcl
                  have hSw4 := sw_clos HSr.out HO.out hobl hcl
                  have hrr4 : 0 < R → ga = some ⟨g, 0, none⟩ ∧ w.heap.size ≤ g ∧ RRow w4 g R cap (fun _ => p) (fun r => ns.getD r 0) S L E := fun hR0 => by
                    obtain ⟨z1, z2, z3⟩ := Hrr.out hR0
                    exact ⟨z1, z2, rrow_clos (z3.of_block (Hb.out.block g z3.lt)) HO.out (by omega) hcl⟩
                  obtain ⟨rfl, _⟩ := hcl
                  have HSw4 : Hid (Sw w w4 ob (out ++ [⟨b, t, k, vt⟩])) := hSw4
                  have Hrr4 : Hid (0 < R → ga = some ⟨g, 0, none⟩ ∧ w.heap.size ≤ g ∧ RRow w4 g R cap (fun _ => p) (fun r => ns.getD r 0) S L E) := hrr4
                  clear hSw4 hrr4 tc0 tc1
                  go_wp2_with fail
                  go_loopw [135] (fun y wx => ∃ r : Nat, r ≤ R ∧ y = .int .i64 r ∧ Sw w wx ob (out ++ [⟨b, t, k, vt⟩]) ∧ (0 < R → ga = some ⟨g, 0, none⟩ ∧ w.heap.size ≤ g ∧ RRow wx g R cap (fun x => if x < r then p + b else p) (fun r => ns.getD r 0) S L E)) (fun y _ => R - (intOf y).toNat)
                  case atStart => exact ⟨0, Nat.zero_le _, rfl, HSw4.out, Hrr4.out⟩
                  case round =>
                    clear HSw4 Hrr4 HCl HSr HO Hb
                    obtain ⟨r, hr, rfl, hS6, hrr6⟩ := hrel
                    by_cases hrR : r < R
                    · obtain ⟨rfl, hgw, hrow⟩ := hrr6 (by omega)
                      obtain ⟨i, of, sl, lf, hi, hra⟩ := rest_at Hns.out HR.out hrow hrR hcn Hp.out hL
                      simp only [Nat.lt_irrefl, if_false] at hra
                      have k0 := hra.k0
                      have k1 := hra.k1
                      have hslb := hra.slb
                      have hlfb := hra.lfb
                      have hble : p < ext E L i → b ≤ lf := fun hx => by rw [HB1.out, hra.lf']; exact least_le E L p hra.hi hx
                      have rz : (r : Int) < (R : Int) := by omega
                      have fz := fun o => hrow.frozen o
                      have Hra : Hid (RestAt wr g r n i of sl lf p S L E) := hra
                      have HS6 : Hid (Sw w wr ob (out ++ [⟨b, t, k, vt⟩])) := hS6
                      have Hrow : Hid (RRow wr g R cap (fun x => if x < r then p + b else p) (fun r => ns.getD r 0) S L E) := hrow
                      have Hi : Hid (i = ns.getD r 0) := hi
                      obtain ⟨cc, hcc, _⟩ := hrow
                      have Hcc : Hid (wr.heap[g]? = some (.cells cc 88 (0, 0))) := hcc
                      clear hra hS6 hi hrr6 hcc
                      by_cases hx : p < ext E L i
                      · have hsl0 := (Hra.out.yes hx).1
                        have hbl := hble hx
                        have d3 : ((sl : Int) == 0) = false := by rw [beq_eq_false_iff_ne]; omega
                        have Hx : Hid (p < ext E L i) := hx
                        have hA6 := (HS6.out.arg h hrb hSo).zero
                        clear hble
                        by_cases hbf : b < lf
                        · have d9 : ((lf : Int) - (b : Int) == 0) = false := by rw [beq_eq_false_iff_ne]; omega
                          clear hx hA6
                          go_wp2_with fail
                          go_roundw
                          case rel =>
                            refine ⟨r + 1, by omega, by go_num, HS6.out.setRest hobl hgw Hcc.out _ _, fun _ => ⟨by first | trivial | rfl, hgw, ?_⟩⟩
                            exact rr_in Hrow.out hrR (by rw [← Hi.out]; exact (Hp.out i Hra.out.hi).1) (by rw [← Hi.out]; exact Hx.out) (by rw [← Hi.out, ← Hra.out.lf']; exact hbf) _ (by rw [← Hi.out, ← Hra.out.lf']; omega)
                          case measure => simp [intOf]; omega
                        · obtain rfl : b = lf := by omega
                          have d9 : ((b : Int) - (b : Int) == 0) = true := by simp
                          obtain ⟨_, hof, hil, hsle⟩ := Hra.out.yes hx
                          by_cases hs1 : sl = 1
                          · subst hs1
                            clear hx hA6
                            have z0 : ∀ x, (wr.setCell ⟨g, r * 2 + 1, none⟩ x).cell? ⟨g, r * 2, none⟩ = some (.slice (some ⟨S i, of, none⟩) 1 1) := fun x => by
                              rw [World.cell?_setCell_other _ _ _ _ (by first | (simp; done) | (simp; omega))]; exact k0
                            have Hoff : Hid (of = idx E L i p * 4 ∧ 1 = L i - idx E L i p) := ⟨hof, hsle⟩
                            clear hof hsle hil
                            have e1 : Hid (RRow ((wr.setCell ⟨g, r * 2 + 1, none⟩ (.int .u64 0)).setCell ⟨g, r * 2, none⟩ (.slice (some ⟨S i, of, none⟩) 0 0)) g R cap (fun x => if x < r + 1 then p + b else p) (fun r => ns.getD r 0) S L E) := by
                              have hpi := (Hp.out i Hra.out.hi).1
                              have hxi := Hx.out
                              have hbi := Hra.out.lf'
                              obtain ⟨o1, o2⟩ := Hoff.out
                              have o3 : idx E L i p + 1 = L i := by have := idx_lt hpi hxi; omega
                              rw [Hi.out] at hpi hxi hbi o1 o3 ⊢
                              exact rr_last Hrow.out hrR hpi hxi hbi o3 o1 0 rfl
                            go_wp2_with fail
                            go_roundw
                            case rel => exact ⟨r + 1, by omega, by go_num, (HS6.out.setRest hobl hgw Hcc.out _ _).setRest hobl hgw (blk_set1 Hcc.out) _ _, fun _ => ⟨by first | trivial | rfl, hgw, e1.out⟩⟩
                            case measure => simp [intOf]; omega
                          · have hil2 : idx E L i p + 1 < L i := by omega
                            have hn0 : wr.cell? ⟨S i, of + 4, none⟩ = some (.int .u64 ((E i (idx E L i p + 1)).c : Int)) := by
                              have := hA6.c0 i Hra.out.hi _ hil2
                              rw [hof, show idx E L i p * 4 + 4 = (idx E L i p + 1) * 4 by omega]
                              exact this
                            have hne : S i ≠ g := by
                              have q := World.block_lt_of_cell? _ _ ((h.zero).c0 i Hra.out.hi _ hil2)
                              simp at q
                              omega
                            obtain ⟨nx, hnx⟩ : ∃ nx, nx = (E i (idx E L i p + 1)).c := ⟨_, rfl⟩
                            rw [← hnx] at hn0
                            have Hnx : Hid (nx = (E i (idx E L i p + 1)).c) := hnx
                            have z0 : ∀ x, (wr.setCell ⟨g, r * 2 + 1, none⟩ x).cell? ⟨g, r * 2, none⟩ = some (.slice (some ⟨S i, of, none⟩) sl sl) := fun x => by
                              rw [World.cell?_setCell_other _ _ _ _ (by first | (simp; done) | (simp; omega))]; exact k0
                            have z1 : ∀ x y, ((wr.setCell ⟨g, r * 2 + 1, none⟩ x).setCell ⟨g, r * 2, none⟩ y).cell? ⟨S i, of + 4, none⟩ = some (.int .u64 (nx : Int)) := fun x y => by
                              rw [World.cell?_setCell_other _ _ _ _ (fun e => hne (by have := congrArg Addr.block e; simp at this; omega)), World.cell?_setCell_other _ _ _ _ (fun e => hne (by have := congrArg Addr.block e; simp at this; omega))]; exact hn0
                            have Hoff : Hid (of = idx E L i p * 4 ∧ sl = L i - idx E L i p ∧ idx E L i p + 1 < L i) := ⟨hof, hsle, hil2⟩
                            have hsl2 : 1 < sl := by omega
                            clear hof hsle hil hil2 hx hA6 hn0 hnx
                            have e1 : Hid (RRow (((wr.setCell ⟨g, r * 2 + 1, none⟩ (.int .u64 0)).setCell ⟨g, r * 2, none⟩ (.slice (some ⟨S i, of + 4, none⟩) (sl - 1) (sl - 1))).setCell ⟨g, r * 2 + 1, none⟩ (.int .u64 (nx : Int))) g R cap (fun x => if x < r + 1 then p + b else p) (fun r => ns.getD r 0) S L E) := by
                              have hpi := (Hp.out i Hra.out.hi).1
                              have hxi := Hx.out
                              have hbi := Hra.out.lf'
                              obtain ⟨o1, o2, o3⟩ := Hoff.out
                              have hnn := Hnx.out
                              rw [Hi.out] at hpi hxi hbi o1 o2 o3 hnn ⊢
                              rw [hnn]
                              exact rr_over Hrow.out hrR hpi hxi hbi o3 o1 o2 0
                            go_wp2_with fail
                            go_roundw
                            case rel => exact ⟨r + 1, by omega, by go_num, ((HS6.out.setRest hobl hgw Hcc.out _ _).setRest hobl hgw (blk_set1 Hcc.out) _ _).setRest hobl hgw (blk_set1 (blk_set1 Hcc.out)) _ _, fun _ => ⟨by first | trivial | rfl, hgw, e1.out⟩⟩
                            case measure => simp [intOf]; omega
                      · have hsl0 := Hra.out.no hx
                        have Hx : Hid (¬ p < ext E L i) := hx
                        clear hx hble
                        subst hsl0
                        go_wp2_with fail
                        go_roundw
                        case rel => exact ⟨r + 1, by omega, by go_num, HS6.out, fun _ => ⟨by first | trivial | rfl, hgw, rr_stay Hrow.out hrR (by rw [← Hi.out]; exact (Hp.out i Hra.out.hi).1) (by rw [← Hi.out]; exact Hx.out)⟩⟩
                        case measure => simp [intOf]; omega
                    · obtain rfl : R = r := by omega
                      have HX : Hid (Sw w wr ob (out ++ [⟨b, t, k, vt⟩]) ∧ (0 < R → ga = some ⟨g, 0, none⟩ ∧ w.heap.size ≤ g ∧ RRow wr g R cap (fun _ => p + b) (fun r => ns.getD r 0) S L E)) :=
                        ⟨hS6, fun hR0 => ⟨(hrr6 hR0).1, (hrr6 hR0).2.1, (hrr6 hR0).2.2.congr (fun x hx => by rw [if_pos hx])⟩⟩
                      have hsl := step_le hcn Hp.out hrp
                      rw [← HB1.out] at hsl
                      have Hsl : Hid (0 < b ∧ p + b ≤ cn) := hsl
                      have Hch2 : Hid (chain E L n (out ++ [⟨b, t, k, vt⟩]) 0 (p + b)) := by
                        have := chain_snoc out Hch.out (show n / 2 < reach E L p n by rw [← HA1.out]; omega)
                        rw [Hst.out, ← HB1.out] at this
                        exact this
                      clear hS6 hrr6 hsl
                      go_wp2_with fail
                      go_roundg (cn - (p + b))
                      case measure => have := Hsl.out; omega
                      case rel => exact ⟨p + b, out ++ [⟨b, t, k, vt⟩], Hsl.out.2, rfl, HX.out.1, Hch2.out, HX.out.2⟩
end Go.Proofs.Qxb6604549a
