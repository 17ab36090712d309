/-
  PLAIN: what the model's sweep computes.
-/
import Derived.Test.Qxb6604549aNs
namespace Go.Proofs.Qxb6604549a
set_option linter.unusedVariables false
set_option linter.unusedSimpArgs false

/-- The ends of answer i's first j spans. -/
def rowEnds (E : Nat → Nat → Sp) (i : Nat) : Nat → List Nat
  | 0 => []
  | j + 1 => rowEnds E i j ++ [st E i (j + 1)]

/-- The ends of the first k answers' spans. -/
def endsTo (E : Nat → Nat → Sp) (L : Nat → Nat) : Nat → List Nat
  | 0 => []
  | k + 1 => endsTo E L k ++ rowEnds E k (L k)

theorem rowEnds_len (E : Nat → Nat → Sp) (i j : Nat) : (rowEnds E i j).length = j := by
  induction j with
  | zero => rfl
  | succ j ih => simp [rowEnds, ih]

theorem endsTo_len (E : Nat → Nat → Sp) (L : Nat → Nat) (k : Nat) : (endsTo E L k).length = sumN L k := by
  induction k with
  | zero => rfl
  | succ k ih => simp [endsTo, ih, rowEnds_len, sumN_succ]

theorem rowEnds_mem {E : Nat → Nat → Sp} {i j x : Nat} : x ∈ rowEnds E i j ↔ ∃ a, a < j ∧ x = st E i (a + 1) := by
  induction j with
  | zero => simp [rowEnds]
  | succ j ih =>
    rw [rowEnds, List.mem_append, ih]
    constructor
    · rintro (⟨a, h1, h2⟩ | h)
      · exact ⟨a, by omega, h2⟩
      · exact ⟨j, by omega, by simpa using h⟩
    · rintro ⟨a, h1, h2⟩
      by_cases e : a = j
      · subst e; exact Or.inr (by simp [h2])
      · exact Or.inl ⟨a, by omega, h2⟩

theorem endsTo_mem {E : Nat → Nat → Sp} {L : Nat → Nat} {k x : Nat} : x ∈ endsTo E L k ↔ ∃ i, i < k ∧ ∃ a, a < L i ∧ x = st E i (a + 1) := by
  induction k with
  | zero => simp [endsTo]
  | succ k ih =>
    rw [endsTo, List.mem_append, ih, rowEnds_mem]
    constructor
    · rintro (⟨i, h1, h2⟩ | h)
      · exact ⟨i, by omega, h2⟩
      · exact ⟨k, by omega, h⟩
    · rintro ⟨i, h1, h2⟩
      by_cases e : i = k
      · subst e; exact Or.inr h2
      · exact Or.inl ⟨i, by omega, h2⟩

theorem cntP_pos {p : Nat → Bool} {f : Nat → Nat} {n : Nat} : 0 < cntP p f n ↔ ∃ i, i < n ∧ p (f i) = true := by
  induction n with
  | zero => simp [cntP]
  | succ n ih =>
    rw [cntP_succ]
    constructor
    · intro h
      by_cases e : p (f n) = true
      · exact ⟨n, by omega, e⟩
      · rw [if_neg e] at h
        obtain ⟨i, h1, h2⟩ := ih.1 (by omega)
        exact ⟨i, by omega, h2⟩
    · rintro ⟨i, h1, h2⟩
      by_cases e : i = n
      · subst e; rw [if_pos h2]; omega
      · have := ih.2 ⟨i, by omega, h2⟩
        omega

/-- The same values, in whatever order. -/
theorem same_vals {f g : Nat → Nat} {n : Nat} (h : ∀ p, cntP p f n = cntP p g n) {i : Nat} (hi : i < n) : ∃ j, j < n ∧ g j = f i := by
  have h1 : 0 < cntP (fun v => decide (v = f i)) f n := cntP_pos.2 ⟨i, hi, by simp⟩
  rw [h] at h1
  obtain ⟨j, h2, h3⟩ := cntP_pos.1 h1
  exact ⟨j, h2, by simpa using h3⟩

/-- The row of all ends, sorted. -/
structure Ends (E : Nat → Nat → Sp) (L : Nat → Nat) (n m : Nat) (f : Nat → Nat) : Prop where
  srt : Sorted f m
  isEnd : ∀ c, c < m → ∃ i, i < n ∧ ∃ a, a < L i ∧ f c = st E i (a + 1)
  all : ∀ i, i < n → ∀ a, a < L i → ∃ c, c < m ∧ f c = st E i (a + 1)

theorem ends_of {E : Nat → Nat → Sp} {L : Nat → Nat} {n : Nat} {f : Nat → Nat} (hs : Sorted f (sumN L n)) (hc : ∀ p, cntP p f (sumN L n) = cntP p (fun i => (endsTo E L n).getD i 0) (sumN L n)) : Ends E L n (sumN L n) f := by
  refine ⟨hs, fun c h => ?_, fun i hi a ha => ?_⟩
  · obtain ⟨j, h1, h2⟩ := same_vals hc h
    have h3 : j < (endsTo E L n).length := by rw [endsTo_len]; exact h1
    have h4 : (endsTo E L n)[j] ∈ endsTo E L n := List.getElem_mem h3
    obtain ⟨i, q1, a, q2, q3⟩ := endsTo_mem.1 h4
    refine ⟨i, q1, a, q2, ?_⟩
    rw [← h2, ← q3]
    simp [List.getD, List.getElem?_eq_getElem h3]
  · have hm : st E i (a + 1) ∈ endsTo E L n := endsTo_mem.2 ⟨i, hi, a, ha, rfl⟩
    obtain ⟨j, h3, h4⟩ := List.getElem_of_mem hm
    have h5 : j < sumN L n := by rw [← endsTo_len E L n]; exact h3
    obtain ⟨c, q1, q2⟩ := same_vals (fun p => (hc p).symm) h5
    refine ⟨c, q1, ?_⟩
    rw [q2, ← h4]
    simp [List.getD, List.getElem?_eq_getElem h3]

/-- The next end beyond p. -/
theorem ends_next {E : Nat → Nat → Sp} {L : Nat → Nat} {n m cn c p : Nat} {f : Nat → Nat} (hcn : cn ≤ 18446744073709551615) (hp : Prem n L E cn) (h : Ends E L n m f) (hc : c < m) (hb : ∀ i, i < c → f i ≤ p) (hlt : p < f c) (hr : 0 < reach E L p n) : f c = p + least E L p n := by
  obtain ⟨i, h1, h2, h3⟩ := least_is hcn p hp hr
  have hpi := (hp i h1).1
  have a := idx_lt hpi h2
  have e : p + least E L p n = st E i (idx E L i p + 1) := by
    have := idx_end hpi a
    rw [h3]; unfold lft; rw [if_pos h2]; omega
  refine Nat.le_antisymm ?_ ?_
  · obtain ⟨c', q1, q2⟩ := h.all i h1 _ a
    rw [e, ← q2]
    rcases Nat.lt_or_ge c' c with q | q
    · have := hb c' q
      have := idx_end hpi a
      omega
    · exact h.srt c c' q q1
  · obtain ⟨i', q1, a', q2, q3⟩ := h.isEnd c hc
    have hpi' := (hp i' q1).1
    have hx : p < ext E L i' := Nat.lt_of_lt_of_le (by rw [← q3]; exact hlt) (st_mono E i' (show a' + 1 ≤ L i' by omega))
    have hl := least_le E L p q1 hx
    unfold lft at hl
    rw [if_pos hx] at hl
    have hle : idx E L i' p ≤ a' := by
      rcases Nat.lt_or_ge a' (idx E L i' p) with q | q
      · have := (doneTo_spec E i' p (L i') hpi').1 a' q
        omega
      · exact q
    have := st_mono E i' (show idx E L i' p + 1 ≤ a' + 1 by omega)
    have := idx_end hpi' (idx_lt hpi' hx)
    omega

theorem reach_none {E : Nat → Nat → Sp} {L : Nat → Nat} {p n : Nat} (h : ∀ i, i < n → ext E L i ≤ p) : reach E L p n = 0 := by
  induction n with
  | zero => rfl
  | succ n ih =>
    show reach E L p n + _ = 0
    rw [ih (fun i hi => h i (by omega)), if_neg (by have := h n (by omega); omega)]

/-- No end is left beyond p. -/
theorem ends_out {E : Nat → Nat → Sp} {L : Nat → Nat} {n m p : Nat} {f : Nat → Nat} (h : Ends E L n m f) (hb : ∀ i, i < m → f i ≤ p) : reach E L p n = 0 := by
  refine reach_none fun i hi => ?_
  rcases Nat.eq_zero_or_pos (L i) with e | e
  · unfold ext; rw [e]; exact Nat.zero_le _
  · obtain ⟨c, h1, h2⟩ := h.all i hi (L i - 1) (by omega)
    rw [show L i - 1 + 1 = L i by omega] at h2
    have := hb c h1
    unfold ext
    omega

/-- The list without repetitions, each tag where it first stands. -/
def addU (u : List (Int × Int)) (x : Int × Int) : List (Int × Int) := if x ∈ u then u else u ++ [x]
def uniq (l : List (Int × Int)) : List (Int × Int) := l.foldl addU []
theorem uniq_snoc (l : List (Int × Int)) (x : Int × Int) : uniq (l ++ [x]) = addU (uniq l) x := by simp [uniq]
theorem uniq_nil : uniq [] = [] := rfl

theorem snoc_ind {α : Type} {P : List α → Prop} (h0 : P []) (hs : ∀ l x, P l → P (l ++ [x])) (l : List α) : P l := by
  have key : ∀ m : List α, P m.reverse := fun m => by
    induction m with
    | nil => exact h0
    | cons x m ih => rw [List.reverse_cons]; exact hs _ _ ih
  have := key l.reverse
  rwa [List.reverse_reverse] at this

theorem uniq_mem (l : List (Int × Int)) (x : Int × Int) : x ∈ uniq l ↔ x ∈ l := by
  induction l using snoc_ind with
  | h0 => simp [uniq]
  | hs l y ih =>
    rw [uniq_snoc, List.mem_append, ← ih]
    unfold addU
    by_cases h : y ∈ uniq l
    · rw [if_pos h]
      constructor
      · exact Or.inl
      · rintro (q | q)
        · exact q
        · simp at q; subst q; exact h
    · rw [if_neg h, List.mem_append]

theorem uniq_nodup (l : List (Int × Int)) : (uniq l).Nodup := by
  induction l using snoc_ind with
  | h0 => exact List.nodup_nil
  | hs l y ih =>
    rw [uniq_snoc]
    unfold addU
    by_cases h : y ∈ uniq l
    · rw [if_pos h]; exact ih
    · rw [if_neg h]
      rw [List.nodup_append]
      refine ⟨ih, by simp, fun a ha b hb e => ?_⟩
      simp at hb
      subst hb
      subst e
      exact h ha

theorem uniq_len (l : List (Int × Int)) : (uniq l).length ≤ l.length := by
  induction l using snoc_ind with
  | h0 => simp [uniq]
  | hs l y ih =>
    rw [uniq_snoc]
    unfold addU
    split <;> simp <;> omega

theorem cnt_zero {x : Int × Int} : ∀ {l : List (Int × Int)}, x ∉ l → cnt x l = 0
  | [], _ => rfl
  | y :: l, h => by
    simp at h
    show (if y = x then 1 else 0) + cnt x l = 0
    rw [if_neg (fun e => h.1 e.symm), cnt_zero h.2]

theorem pick_ge (all : List (Int × Int)) : ∀ (l : List (Int × Int)) (b : (Int × Int) × Nat), b.2 ≤ (pick all b l).2 ∧ ∀ x, x ∈ l → cnt x all ≤ (pick all b l).2
  | [], b => ⟨Nat.le_refl _, fun x hx => by cases hx⟩
  | y :: l, b => by
    have h := pick_ge all l (if b.2 < cnt y all then (y, cnt y all) else b)
    have hb : b.2 ≤ (if b.2 < cnt y all then (y, cnt y all) else b).2 ∧ cnt y all ≤ (if b.2 < cnt y all then (y, cnt y all) else b).2 := by
      by_cases e : b.2 < cnt y all
      · rw [if_pos e]; exact ⟨Nat.le_of_lt e, Nat.le_refl _⟩
      · rw [if_neg e]; exact ⟨Nat.le_refl _, by omega⟩
    refine ⟨Nat.le_trans hb.1 h.1, fun x hx => ?_⟩
    rcases List.mem_cons.1 hx with rfl | hx
    · exact Nat.le_trans hb.2 h.1
    · exact h.2 x hx

/-- Going through the repetitions adds nothing. -/
theorem pick_uniq (all : List (Int × Int)) (b : (Int × Int) × Nat) (l : List (Int × Int)) : pick all b (uniq l) = pick all b l := by
  induction l using snoc_ind with
  | h0 => rfl
  | hs l y ih =>
    rw [uniq_snoc, pick_snoc]
    unfold addU
    by_cases h : y ∈ uniq l
    · rw [if_pos h, ih, if_neg]
      have := (pick_ge all l b).2 y ((uniq_mem l y).1 h)
      omega
    · rw [if_neg h, pick_snoc, ih]
end Go.Proofs.Qxb6604549a
