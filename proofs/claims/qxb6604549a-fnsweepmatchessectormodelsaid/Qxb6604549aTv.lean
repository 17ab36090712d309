/-
  THE TALLY OF THE MODEL's SWEEP: tags and votes, in memory.
-/
import Derived.Test.Qxb6604549aModPlain
import Derived.Test.Qxb6604549aClos
namespace Go.Proofs.Qxb6604549a
open Go.RowKit
set_option linter.unusedVariables false
set_option linter.unusedSimpArgs false

def tagc (x : Int × Int) : List Value := [.int .u64 x.1, .int .u32 x.2]
def vts (h u : List (Int × Int)) : List Value := u.map (fun x => Value.int .i64 ((cnt x h : Nat) : Int))

theorem cnt_self (x : Int × Int) (h : List (Int × Int)) : cnt x (h ++ [x]) = cnt x h + 1 := by rw [cnt_append]; simp [cnt]
theorem cnt_other {x y : Int × Int} (e : x ≠ y) (h : List (Int × Int)) : cnt x (h ++ [y]) = cnt x h := by rw [cnt_append]; simp [cnt, Ne.symm e]

theorem uniq_new {h : List (Int × Int)} {x : Int × Int} (hx : x ∉ uniq h) : uniq (h ++ [x]) = uniq h ++ [x] ∧ vts (h ++ [x]) (uniq (h ++ [x])) = vts h (uniq h) ++ [.int .i64 1] := by
  have e : uniq (h ++ [x]) = uniq h ++ [x] := by rw [uniq_snoc, addU, if_neg hx]
  refine ⟨e, ?_⟩
  rw [e, vts, List.map_append]
  have e1 : cnt x (h ++ [x]) = 1 := by rw [cnt_self, cnt_zero (fun q => hx ((uniq_mem h x).2 q))]
  have e2 : (uniq h).map (fun y => Value.int .i64 ((cnt y (h ++ [x]) : Nat) : Int)) = vts h (uniq h) := by
    rw [vts]
    refine List.map_congr_left fun y hy => ?_
    rw [cnt_other (x := y) (y := x) (fun q => hx (by rw [← q]; exact hy))]
  rw [e2]
  simp [e1]

theorem uniq_old {h : List (Int × Int)} {x : Int × Int} {t : Nat} (ht : (uniq h)[t]? = some x) : uniq (h ++ [x]) = uniq h ∧ vts (h ++ [x]) (uniq (h ++ [x])) = (vts h (uniq h)).set t (.int .i64 ((cnt x h : Int) + 1)) := by
  have hx : x ∈ uniq h := List.mem_of_getElem? ht
  have e : uniq (h ++ [x]) = uniq h := by rw [uniq_snoc, addU, if_pos hx]
  refine ⟨e, ?_⟩
  rw [e]
  have htl : t < (uniq h).length := by
    rcases Nat.lt_or_ge t (uniq h).length with q | q
    · exact q
    · rw [List.getElem?_eq_none q] at ht; cases ht
  apply List.ext_getElem?
  intro i
  by_cases hi : i < (uniq h).length
  · simp only [vts, List.getElem?_set, List.getElem?_map, List.length_map]
    by_cases q : t = i
    · subst q
      rw [if_pos rfl, if_pos htl, ht]
      simp [cnt_self]
    · rw [if_neg q, List.getElem?_eq_getElem hi]
      simp only [Option.map_some]
      have hne : (uniq h)[i] ≠ x := fun e' => by
        rw [List.getElem?_eq_getElem htl] at ht
        injection ht with ht
        exact q ((List.getElem_inj (uniq_nodup h)).1 (ht.trans e'.symm))
      rw [cnt_other hne]
  · rw [List.getElem?_eq_none (by simp [vts]; omega), List.getElem?_eq_none (by simp [vts]; omega)]

/-- The tally. -/
structure TV (w0 w : World) (vt vv : Value) (h : List (Int × Int)) : Prop where
  below : Below w0.heap.size w0 w
  tags : w.ownsRow w0.heap.size 55 2 vt (uniq h).length ((uniq h).flatMap tagc)
  votes : w.ownsRow w0.heap.size 3 1 vv (uniq h).length (vts h (uniq h))

theorem grown_of_below {w w' : World} (h : Below w.heap.size w w') : w.grownBy w' none :=
  ⟨h.os, h.tape, h.output, h.size, fun b hb _ => h.block b hb⟩

theorem own_kept {w w' : World} {B : Nat} {t : TypeId} {sz : Nat} {v : Value} {n : Nat} {xs : List Value} (h : w.ownsRow B t sz v n xs) (hb : Below w.heap.size w w') : w'.ownsRow B t sz v n xs :=
  h.kept (grown_of_below hb) (by cases v.ownBlock <;> simp)

theorem TV.start (w : World) : TV w w (.slice none 0 0) (.slice none 0 0) [] := ⟨Below.refl _ _, World.ownsRow_nil _ _ _ _, World.ownsRow_nil _ _ _ _⟩

theorem TV.kept {w0 w w' : World} {vt vv : Value} {h : List (Int × Int)} (q : TV w0 w vt vv h) (hb : Below w.heap.size w w') : TV w0 w' vt vv h :=
  ⟨q.below.trans (hb.mono q.below.size), own_kept q.tags hb, own_kept q.votes hb⟩

theorem tagc_at : ∀ (l : List (Int × Int)) (i : Nat) (x : Int × Int), l[i]? = some x → (l.flatMap tagc)[i * 2]? = some (.int .u64 x.1) ∧ (l.flatMap tagc)[i * 2 + 1]? = some (.int .u32 x.2)
  | [], i, s, h => by simp at h
  | y :: l, 0, s, h => by
    simp at h
    subst h
    exact ⟨rfl, rfl⟩
  | y :: l, i + 1, s, h => by
    have q := tagc_at l i s (by simpa using h)
    rw [show (i + 1) * 2 = i * 2 + 2 by omega]
    exact q

/-- The two slices written out. -/
structure TVat (w : World) (to vo : Option Addr) (gt gv : Nat) (h : List (Int × Int)) : Prop where
  lead : 0 < (uniq h).length → to = some ⟨gt, 0, none⟩ ∧ vo = some ⟨gv, 0, none⟩
  tag : ∀ i x, (uniq h)[i]? = some x → w.cell? ⟨gt, i * 2, none⟩ = some (.int .u64 x.1) ∧ w.cell? ⟨gt, i * 2 + 1, none⟩ = some (.int .u32 x.2)
  vote : ∀ i x, (uniq h)[i]? = some x → w.cell? ⟨gv, i, none⟩ = some (.int .i64 ((cnt x h : Nat) : Int)) ∧ w.frozen? ⟨gv, i, none⟩ = false

theorem row_form {w : World} {B : Nat} {t : TypeId} {sz : Nat} {v : Value} {n : Nat} {xs : List Value} (h : w.ownsRow B t sz v n xs) : ∃ o g cap, v = .slice o n cap ∧ (0 < n → o = some ⟨g, 0, none⟩) ∧ B ≤ g ∧ (∀ j, 0 < n → j < n * sz → w.cell? ⟨g, j, none⟩ = xs[j]?) ∧ (∀ j, 0 < n → w.frozen? ⟨g, j, none⟩ = false) := by
  have h' := h
  rcases h.2 with ⟨rfl, h0⟩ | ⟨g, cap, cur, rfl, hg, hh, h1, h2, h3, h4⟩
  · exact ⟨none, B, 0, by rw [h0], fun q => by omega, Nat.le_refl _, fun j q => by omega, fun j q => by omega⟩
  · exact ⟨_, g, cap, rfl, fun _ => rfl, hg, fun j _ hj => h'.cellAt j hj, fun j _ => h'.frozenAt j⟩

theorem TV.at {w0 w : World} {vt vv : Value} {h : List (Int × Int)} (q : TV w0 w vt vv h) : ∃ to vo gt gv ct cv, vt = .slice to (uniq h).length ct ∧ vv = .slice vo (uniq h).length cv ∧ w0.heap.size ≤ gt ∧ w0.heap.size ≤ gv ∧ TVat w to vo gt gv h := by
  obtain ⟨to, gt, ct, e1, l1, b1, c1, f1⟩ := row_form q.tags
  obtain ⟨vo, gv, cv, e2, l2, b2, c2, f2⟩ := row_form q.votes
  refine ⟨to, vo, gt, gv, ct, cv, e1, e2, b1, b2, fun p => ⟨l1 p, l2 p⟩, fun i x hx => ?_, fun i x hx => ?_⟩
  · have hi : i < (uniq h).length := by
      rcases Nat.lt_or_ge i (uniq h).length with q | q
      · exact q
      · rw [List.getElem?_eq_none q] at hx; cases hx
    have := tagc_at _ i x hx
    exact ⟨by rw [c1 _ (by omega) (by omega)]; exact this.1, by rw [c1 _ (by omega) (by omega)]; exact this.2⟩
  · have hi : i < (uniq h).length := by
      rcases Nat.lt_or_ge i (uniq h).length with q | q
      · exact q
      · rw [List.getElem?_eq_none q] at hx; cases hx
    exact ⟨by rw [c2 _ (by omega) (by omega)]; simp [vts, hx], f2 i (by omega)⟩

theorem TV.frozen {w0 w : World} {to vo : Option Addr} {ct cv gt gv : Nat} {h : List (Int × Int)} (q : TV w0 w (.slice to (uniq h).length ct) (.slice vo (uniq h).length cv) h) (hl : 0 < (uniq h).length → to = some ⟨gt, 0, none⟩ ∧ vo = some ⟨gv, 0, none⟩) {i : Nat} {x : Int × Int} (hx : (uniq h)[i]? = some x) : w.frozen? ⟨gv, i, none⟩ = false := by
  have hi : i < (uniq h).length := by
    rcases Nat.lt_or_ge i (uniq h).length with q | q
    · exact q
    · rw [List.getElem?_eq_none q] at hx; cases hx
  have e := (hl (by omega)).2
  subst e
  exact q.votes.frozenAt i

/-- The block of a row tells its elements' type. -/
theorem own_apart {w : World} {B B' : Nat} {t t' : TypeId} {sz sz' : Nat} {v v' : Value} {n n' : Nat} {xs xs' : List Value} (h : w.ownsRow B t sz v n xs) (h' : w.ownsRow B' t' sz' v' n' xs') (ht : t ≠ t') : v.ownBlock = none ∨ v.ownBlock ≠ v'.ownBlock := by
  rcases h.2 with ⟨rfl, _⟩ | ⟨g, cap, cur, rfl, _, hh, _⟩
  · exact Or.inl rfl
  · refine Or.inr fun e => ?_
    rcases h'.2 with ⟨rfl, _⟩ | ⟨g', cap', cur', rfl, _, hh', _⟩
    · simp [Value.ownBlock] at e
    · simp [Value.ownBlock] at e
      subst e
      rw [hh] at hh'
      simp at hh'
      exact ht hh'.2

/-- One vote more for a tag that is there. -/
theorem TV.vote {w0 w : World} {vt : Value} {h : List (Int × Int)} {gv cv : Nat} (q : TV w0 w vt (.slice (some ⟨gv, 0, none⟩) (uniq h).length cv) h) {t : Nat} {x : Int × Int} (ht : (uniq h)[t]? = some x) :
    TV w0 (w.setCell ⟨gv, t, none⟩ (.int .i64 ((cnt x h : Int) + 1))) vt (.slice (some ⟨gv, 0, none⟩) (uniq h).length cv) (h ++ [x]) := by
  obtain ⟨e1, e2⟩ := uniq_old ht
  have hgv : w0.heap.size ≤ gv := (q.votes.lt gv rfl).1
  refine ⟨q.below.setCell hgv _, ?_, ?_⟩
  · rw [e1]
    exact q.tags.kept (q.votes.stored t _).2 (own_apart q.tags q.votes (by decide))
  · rw [e2, e1]
    exact (q.votes.stored t _).1

/-- A new tag, after both appends. -/
theorem TV.add {w0 w w1 w2 w3 : World} {vt vv vt' vv' : Value} {h : List (Int × Int)} {x : Int × Int} (q : TV w0 w vt vv h) (hx : x ∉ uniq h) (hb1 : Below w.heap.size w w1)
    (hg1 : w1.grownBy w2 vt.ownBlock) (ht : w2.ownsRow w0.heap.size 55 2 vt' ((uniq h).length + 1) ((uniq h).flatMap tagc ++ tagc x)) {w2' : World} (hb2 : Below w2.heap.size w2 w2')
    (hg2 : w2'.grownBy w3 vv.ownBlock) (hv : w3.ownsRow w0.heap.size 3 1 vv' ((uniq h).length + 1) (vts h (uniq h) ++ [.int .i64 1])) : TV w0 w3 vt' vv' (h ++ [x]) := by
  obtain ⟨e1, e2⟩ := uniq_new hx
  have q1 := q.kept hb1
  have z1 := q1.below.size
  have hv2 := q1.votes.kept hg1 (own_apart q1.votes q1.tags (by decide))
  have hb01 : Below w0.heap.size w0 w2 := ⟨hg1.os.trans q1.below.os, hg1.tape.trans q1.below.tape, hg1.output.trans q1.below.output, Nat.le_trans z1 hg1.size, fun b hb => by
    rw [hg1.block b (by omega) (fun e => by have := (q1.tags.lt b e.symm).1; omega)]
    exact q1.below.block b hb⟩
  have hb02 := hb01.trans (hb2.mono hb01.size)
  have z2 := hb02.size
  have ht2 := own_kept ht hb2
  have hv3 := own_kept hv2 hb2
  refine ⟨⟨hg2.os.trans hb02.os, hg2.tape.trans hb02.tape, hg2.output.trans hb02.output, Nat.le_trans z2 hg2.size, fun b hb => by
    rw [hg2.block b (by omega) (fun e => by have := (hv3.lt b e.symm).1; omega)]
    exact hb02.block b hb⟩, ?_, ?_⟩
  · rw [e1, List.length_append, List.flatMap_append]
    have e3 : [x].flatMap tagc = tagc x := by simp
    rw [e3]
    exact ht2.kept hg2 (own_apart ht2 hv3 (by decide))
  · rw [e2, e1, List.length_append]
    exact hv

/-- What is needed for the second append. -/
theorem TV.votes2 {w0 w w1 w2 w2' : World} {vt vv : Value} {h : List (Int × Int)} (q : TV w0 w vt vv h) (hb1 : Below w.heap.size w w1) (hg1 : w1.grownBy w2 vt.ownBlock) (hb2 : Below w2.heap.size w2 w2') : w2'.ownsRow w0.heap.size 3 1 vv (uniq h).length (vts h (uniq h)) := by
  have q1 := q.kept hb1
  exact own_kept (q1.votes.kept hg1 (own_apart q1.votes q1.tags (by decide))) hb2
end Go.Proofs.Qxb6604549a
