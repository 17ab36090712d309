/-
  PLAIN: what removing n visible elements from rank r on does to the flags and the counts.
-/
import Derived.Test.Qxb6603828aBuild
namespace Go.Proofs.Qxb6603828a

theorem rank_zero (R : Nat → Nat → Bool) (L : Nat → Nat) (k : Nat) : rank R L k 0 = before R L k := rfl
theorem rank_end (R : Nat → Nat → Bool) (L : Nat → Nat) (k : Nat) : rank R L k (L k) = before R L (k + 1) := rfl
theorem rank_hit {R : Nat → Nat → Bool} {L : Nat → Nat} {k j : Nat} (h : R k j = false) : rank R L k (j + 1) = rank R L k j + 1 := by
  unfold rank; rw [cntR_hit h]; omega
theorem rank_miss {R : Nat → Nat → Bool} {L : Nat → Nat} {k j : Nat} (h : R k j = true) : rank R L k (j + 1) = rank R L k j := by
  unfold rank; rw [cntR_miss h]
theorem isAt_rank {R : Nat → Nat → Bool} {L : Nat → Nat} {n p b i : Nat} : IsAt R L n p b i ↔ b < n ∧ i < L b ∧ R b i = false ∧ rank R L b i = p := Iff.rfl

/-- The elements of visible rank r .. r + t - 1 marked removed. -/
def markE (E : Nat → Nat → El) (L : Nat → Nat) (r t : Nat) : Nat → Nat → El :=
  fun k j => ⟨(E k j).v, (E k j).o, (E k j).k, (E k j).r || (decide (r ≤ rank (RR E) L k j) && decide (rank (RR E) L k j < r + t))⟩

theorem mark_r (E : Nat → Nat → El) (L : Nat → Nat) (r t k j : Nat) : RR (markE E L r t) k j = ((E k j).r || (decide (r ≤ rank (RR E) L k j) && decide (rank (RR E) L k j < r + t))) := rfl

theorem mark_zero (E : Nat → Nat → El) (L : Nat → Nat) (r : Nat) : markE E L r 0 = E := by
  funext k j
  have : (decide (r ≤ rank (RR E) L k j) && decide (rank (RR E) L k j < r + 0)) = false := by
    rw [Bool.and_eq_false_iff]
    by_cases h : r ≤ rank (RR E) L k j
    · right; simp; omega
    · left; simp; omega
  unfold markE
  rw [this, Bool.or_false]

/-- At the place of rank r + t nothing is marked yet. -/
theorem mark_at {E : Nat → Nat → El} {L : Nat → Nat} {r t k j : Nat} (h : rank (RR E) L k j = r + t) : RR (markE E L r t) k j = (E k j).r := by
  rw [mark_r, h]
  simp

/-- One more: exactly the place of rank r + t is marked. -/
theorem mark_step {E : Nat → Nat → El} {L : Nat → Nat} {N r t b i : Nat} (h : IsAt (RR E) L N (r + t) b i) {k j : Nat} (hk : k < N) (hj : j < L k) :
    markE E L r (t + 1) k j = if k = b ∧ j = i then ⟨(E b i).v, (E b i).o, (E b i).k, true⟩ else markE E L r t k j := by
  by_cases e : k = b ∧ j = i
  · rw [if_pos e]
    obtain ⟨rfl, rfl⟩ := e
    have h4 : rank (RR E) L k j = r + t := h.2.2.2
    unfold markE
    rw [h4]
    simp
  · rw [if_neg e]
    unfold markE
    congr 1
    cases hr : (E k j).r
    · have hne : rank (RR E) L k j ≠ r + t := fun he => e (isAt_unique (R := RR E) (L := L) (n := N) (p := r + t) ⟨hk, hj, hr, he⟩ h)
      rw [Bool.false_or, Bool.false_or]
      congr 1
      rw [decide_eq_decide]
      omega
    · rfl

/-- A count with one flag more. -/
theorem cntR_set {R R' : Nat → Bool} {i : Nat} (h : R i = false) (h' : R' i = true) (l : Nat) (hs : ∀ j, j < l → j ≠ i → R' j = R j) : cntR R' l + (if i < l then 1 else 0) = cntR R l := by
  induction l with
  | zero => simp [cntR]
  | succ l ih =>
    have q := ih (fun j hj => hs j (by omega))
    show cntR R' l + _ + _ = cntR R l + _
    by_cases e : l = i
    · subst e
      rw [h, h'] at *
      rw [if_neg (Nat.lt_irrefl _)] at q
      simp
      omega
    · rw [hs l (by omega) e]
      have : (if i < l + 1 then 1 else 0 : Nat) = if i < l then 1 else 0 := by
        by_cases h1 : i < l
        · rw [if_pos h1, if_pos (by omega)]
        · rw [if_neg h1, if_neg (by omega)]
      rw [this]
      omega

theorem cntR_congr {R R' : Nat → Bool} (l : Nat) (hs : ∀ j, j < l → R' j = R j) : cntR R' l = cntR R l := by
  induction l with
  | zero => rfl
  | succ l ih =>
    show cntR R' l + _ = cntR R l + _
    rw [ih (fun j hj => hs j (by omega)), hs l (by omega)]

/-- The counts behind one more mark. -/
theorem mark_cnt_at {E : Nat → Nat → El} {L : Nat → Nat} {N r t b i : Nat} (h : IsAt (RR E) L N (r + t) b i) : cntR (RR (markE E L r (t + 1)) b) (L b) + 1 = cntR (RR (markE E L r t) b) (L b) := by
  have := cntR_set (R := RR (markE E L r t) b) (R' := RR (markE E L r (t + 1)) b) (i := i) (by rw [mark_at h.2.2.2]; exact h.2.2.1)
    (by show (markE E L r (t + 1) b i).r = true; rw [mark_step h h.1 h.2.1, if_pos ⟨rfl, rfl⟩]) (L b)
    (fun j hj hne => by show (markE E L r (t + 1) b j).r = _; rw [mark_step h h.1 hj, if_neg (fun e => hne e.2)]; rfl)
  rw [if_pos h.2.1] at this
  exact this

theorem mark_cnt_other {E : Nat → Nat → El} {L : Nat → Nat} {N r t b i k : Nat} (h : IsAt (RR E) L N (r + t) b i) (hk : k < N) (hne : k ≠ b) : cntR (RR (markE E L r (t + 1)) k) (L k) = cntR (RR (markE E L r t) k) (L k) :=
  cntR_congr _ (fun j hj => by show (markE E L r (t + 1) k j).r = _; rw [mark_step h hk hj, if_neg (fun e => hne e.1)]; rfl)

/-- How a rank shifts. -/
def shift (r n x : Nat) : Nat := if x ≤ r then x else if x ≤ r + n then r else x - n

theorem shift_in {r n x : Nat} (h1 : r ≤ x) (h2 : x < r + n) : shift r n x = shift r n (x + 1) := by
  have e1 : shift r n x = r := by
    unfold shift
    by_cases h : x ≤ r
    · rw [if_pos h]; omega
    · rw [if_neg h, if_pos (by omega)]
  have e2 : shift r n (x + 1) = r := by
    unfold shift
    rw [if_neg (by omega), if_pos (by omega)]
  rw [e1, e2]

theorem shift_out {r n x : Nat} (h : x < r ∨ r + n ≤ x) : shift r n x + 1 = shift r n (x + 1) := by
  unfold shift
  rcases h with h | h
  · rw [if_pos (by omega), if_pos (by omega)]
  · by_cases h2 : x ≤ r
    · rw [if_pos h2, if_neg (by omega)]
      by_cases h3 : x + 1 ≤ r + n
      · omega
      · rw [if_neg h3]; omega
    · rw [if_neg h2, if_neg (show ¬ x + 1 ≤ r by omega), if_neg (show ¬ x + 1 ≤ r + n by omega)]
      by_cases h3 : x ≤ r + n
      · rw [if_pos h3]; omega
      · rw [if_neg h3]; omega

theorem rank_mark_row (E : Nat → Nat → El) (L : Nat → Nat) (r n k : Nat) (hb : before (RR (markE E L r n)) L k = shift r n (before (RR E) L k)) (j : Nat) :
    rank (RR (markE E L r n)) L k j = shift r n (rank (RR E) L k j) := by
  induction j with
  | zero => exact hb
  | succ j ih =>
    cases hr : (E k j).r
    · have hR : RR E k j = false := hr
      rw [rank_hit hR]
      by_cases hm : r ≤ rank (RR E) L k j ∧ rank (RR E) L k j < r + n
      · have : RR (markE E L r n) k j = true := by rw [mark_r, hr]; simp [hm.1, hm.2]
        rw [rank_miss this, ih]
        exact shift_in hm.1 hm.2
      · have : RR (markE E L r n) k j = false := by
          rw [mark_r, hr]
          simp
          omega
        rw [rank_hit this, ih]
        exact shift_out (by omega)
    · have hR : RR E k j = true := hr
      have : RR (markE E L r n) k j = true := by rw [mark_r, hr]; simp
      rw [rank_miss hR, rank_miss this, ih]

theorem before_mark (E : Nat → Nat → El) (L : Nat → Nat) (r n k : Nat) : before (RR (markE E L r n)) L k = shift r n (before (RR E) L k) := by
  induction k with
  | zero =>
    have e : before (RR E) L 0 = 0 := rfl
    rw [e]; unfold shift; rw [if_pos (Nat.zero_le _)]; rfl
  | succ k ih => exact rank_mark_row E L r n k ih (L k)

theorem rank_mark (E : Nat → Nat → El) (L : Nat → Nat) (r n k j : Nat) : rank (RR (markE E L r n)) L k j = shift r n (rank (RR E) L k j) :=
  rank_mark_row E L r n k (before_mark E L r n k) j

/-- A place that is not taken keeps its place, its rank shifts. -/
theorem isAt_mark {E : Nat → Nat → El} {L : Nat → Nat} {N r n s b i : Nat} (h : IsAt (RR E) L N s b i) (ho : s < r ∨ r + n ≤ s) : IsAt (RR (markE E L r n)) L N (if s < r then s else s - n) b i := by
  obtain ⟨h1, h2, h3, h4⟩ := h
  have h4' : rank (RR E) L b i = s := h4
  refine ⟨h1, h2, ?_, ?_⟩
  · rw [mark_r, show (E b i).r = false from h3, h4']
    simp
    omega
  · show rank (RR (markE E L r n)) L b i = _
    rw [rank_mark, h4']
    unfold shift
    split <;> split <;> (try split) <;> omega

end Go.Proofs.Qxb6603828a
