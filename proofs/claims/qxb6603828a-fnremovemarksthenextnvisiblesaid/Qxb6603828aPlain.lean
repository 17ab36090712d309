/-
  PLAIN COUNTING: no Go in sight.
-/
namespace Go.Proofs.Qxb6603828a

def sumN (f : Nat → Nat) : Nat → Nat
  | 0 => 0
  | k + 1 => sumN f k + f k

/-- How many of the first j are not removed. -/
def cntR (R : Nat → Bool) : Nat → Nat
  | 0 => 0
  | j + 1 => cntR R j + (if R j then 0 else 1)

/-- How many are not removed in the first b rows. -/
def before (R : Nat → Nat → Bool) (L : Nat → Nat) (b : Nat) : Nat := sumN (fun k => cntR (R k) (L k)) b

theorem sumN_mono (f : Nat → Nat) {a b : Nat} (h : a ≤ b) : sumN f a ≤ sumN f b := by
  induction b with
  | zero => have : a = 0 := by omega
            subst this; exact Nat.le_refl _
  | succ b ih =>
    by_cases e : a = b + 1
    · subst e; exact Nat.le_refl _
    · have := ih (by omega)
      show sumN f a ≤ sumN f b + f b
      omega

theorem sumN_ge (f : Nat → Nat) {k n : Nat} (h : k < n) : f k ≤ sumN f n := by
  have h1 := sumN_mono f (show k + 1 ≤ n by omega)
  have h2 : sumN f (k + 1) = sumN f k + f k := rfl
  omega

theorem cntR_le (R : Nat → Bool) (j : Nat) : cntR R j ≤ j := by
  induction j with
  | zero => exact Nat.le_refl _
  | succ j ih =>
    show cntR R j + _ ≤ _
    split <;> omega

theorem cntR_mono (R : Nat → Bool) {i j : Nat} (h : i ≤ j) : cntR R i ≤ cntR R j := by
  induction j with
  | zero => have : i = 0 := by omega
            subst this; exact Nat.le_refl _
  | succ j ih =>
    by_cases e : i = j + 1
    · subst e; exact Nat.le_refl _
    · have := ih (by omega)
      show cntR R i ≤ cntR R j + _
      omega

theorem cntR_hit {R : Nat → Bool} {j : Nat} (h : R j = false) : cntR R (j + 1) = cntR R j + 1 := by
  show cntR R j + _ = _
  simp [h]

theorem cntR_miss {R : Nat → Bool} {j : Nat} (h : R j = true) : cntR R (j + 1) = cntR R j := by
  show cntR R j + _ = _
  simp [h]

theorem before_le (R : Nat → Nat → Bool) (L : Nat → Nat) (b : Nat) : before R L b ≤ sumN L b := by
  induction b with
  | zero => exact Nat.le_refl _
  | succ b ih =>
    have h1 := cntR_le (R b) (L b)
    have h2 : before R L (b + 1) = before R L b + cntR (R b) (L b) := rfl
    have h3 : sumN L (b + 1) = sumN L b + L b := rfl
    omega

theorem before_succ (R : Nat → Nat → Bool) (L : Nat → Nat) (b : Nat) : before R L (b + 1) = before R L b + cntR (R b) (L b) := rfl

theorem before_mono (R : Nat → Nat → Bool) (L : Nat → Nat) {a b : Nat} (h : a ≤ b) : before R L a ≤ before R L b := sumN_mono _ h

/-- THE ELEMENT AT VISIBLE POSITION p. -/
def IsAt (R : Nat → Nat → Bool) (L : Nat → Nat) (n p b i : Nat) : Prop :=
  b < n ∧ i < L b ∧ R b i = false ∧ before R L b + cntR (R b) i = p

/-- There is only one. -/
theorem isAt_unique {R : Nat → Nat → Bool} {L : Nat → Nat} {n p b i b' i' : Nat} (h : IsAt R L n p b i) (h' : IsAt R L n p b' i') : b = b' ∧ i = i' := by
  obtain ⟨h1, h2, h3, h4⟩ := h
  obtain ⟨g1, g2, g3, g4⟩ := h'
  have key : ∀ {a c x y : Nat}, a < c → x < L a → R a x = false → before R L a + cntR (R a) x = p → before R L c + cntR (R c) y = p → False := by
    intro a c x y hac hx hr e1 e2
    have m1 := before_mono R L (show a + 1 ≤ c by omega)
    rw [before_succ] at m1
    have m2 := cntR_mono (R a) (show x + 1 ≤ L a by omega)
    rw [cntR_hit hr] at m2
    omega
  have hb : b = b' := by
    rcases Nat.lt_trichotomy b b' with hlt | he | hgt
    · exact (key hlt h2 h3 h4 g4).elim
    · exact he
    · exact (key hgt g2 g3 g4 h4).elim
  subst hb
  refine ⟨rfl, ?_⟩
  have key2 : ∀ {x y : Nat}, x < y → R b x = false → cntR (R b) x = cntR (R b) y → False := by
    intro x y hxy hr e
    have m2 := cntR_mono (R b) (show x + 1 ≤ y by omega)
    rw [cntR_hit hr] at m2
    omega
  rcases Nat.lt_trichotomy i i' with hlt | he | hgt
  · exact (key2 hlt h3 (by omega)).elim
  · exact he
  · exact (key2 hgt g3 (by omega)).elim

end Go.Proofs.Qxb6603828a
