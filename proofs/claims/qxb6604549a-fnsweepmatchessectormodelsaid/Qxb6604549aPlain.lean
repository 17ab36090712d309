/-
  PLAIN COUNTING: no Go in sight.
-/
namespace Go.Proofs.Qxb6604549a

def sumN (f : Nat → Nat) : Nat → Nat
  | 0 => 0
  | k + 1 => sumN f k + f k

theorem sumN_succ (f : Nat → Nat) (k : Nat) : sumN f (k + 1) = sumN f k + f k := rfl

theorem sumN_mono (f : Nat → Nat) {a b : Nat} (h : a ≤ b) : sumN f a ≤ sumN f b := by
  induction b with
  | zero =>
    have : a = 0 := by omega
    subst this; exact Nat.le_refl _
  | succ b ih =>
    by_cases e : a = b + 1
    · subst e; exact Nat.le_refl _
    · have := ih (by omega)
      rw [sumN_succ]
      omega

theorem sumN_ge (f : Nat → Nat) {k n : Nat} (h : k < n) : f k ≤ sumN f n := by
  have h1 := sumN_mono f (show k + 1 ≤ n by omega)
  rw [sumN_succ] at h1
  omega

/-- How many i < n have p (f i). -/
def cntP (p : Nat → Bool) (f : Nat → Nat) : Nat → Nat
  | 0 => 0
  | k + 1 => cntP p f k + (if p (f k) then 1 else 0)

theorem cntP_succ (p : Nat → Bool) (f : Nat → Nat) (k : Nat) : cntP p f (k + 1) = cntP p f k + (if p (f k) then 1 else 0) := rfl

theorem cntP_le (p : Nat → Bool) (f : Nat → Nat) (n : Nat) : cntP p f n ≤ n := by
  induction n with
  | zero => exact Nat.le_refl _
  | succ n ih => rw [cntP_succ]; split <;> omega

theorem cntP_congr {p : Nat → Bool} {f g : Nat → Nat} (n : Nat) (h : ∀ i, i < n → f i = g i) : cntP p f n = cntP p g n := by
  induction n with
  | zero => rfl
  | succ n ih => rw [cntP_succ, cntP_succ, ih (fun i hi => h i (by omega)), h n (by omega)]

/-- f with f k turned to x. -/
def upd (f : Nat → Nat) (k x : Nat) : Nat → Nat := fun j => if j = k then x else f j
theorem upd_at (f : Nat → Nat) (k x : Nat) : upd f k x k = x := by simp [upd]
theorem upd_ne (f : Nat → Nat) {k x j : Nat} (h : j ≠ k) : upd f k x j = f j := by simp [upd, h]

/-- One place turned. -/
theorem cntP_upd (p : Nat → Bool) (f : Nat → Nat) (k x n : Nat) (hk : k < n) : cntP p (upd f k x) n + (if p (f k) then 1 else 0) = cntP p f n + (if p x then 1 else 0) := by
  induction n with
  | zero => omega
  | succ n ih =>
    rw [cntP_succ, cntP_succ]
    by_cases e : k = n
    · subst e
      rw [upd_at, cntP_congr (f := upd f k x) (g := f) k (fun i hi => upd_ne f (by omega))]
      omega
    · rw [upd_ne f (show n ≠ k by omega)]
      have := ih (by omega)
      omega

/-- Two neighbouring places exchanged, as an insertion does it. -/
theorem cntP_shift (p : Nat → Bool) (s : Nat → Nat) (j v n : Nat) (hj : j + 1 < n) : cntP p (upd (upd s (j + 1) (s j)) j v) n = cntP p (upd s (j + 1) v) n := by
  have h1 := cntP_upd p (upd s (j + 1) (s j)) j v n (by omega)
  have h2 := cntP_upd p s (j + 1) (s j) n hj
  have h3 := cntP_upd p s (j + 1) v n hj
  rw [upd_ne s (show j ≠ j + 1 by omega)] at h1
  omega

/-- Sorted upwards below n. -/
def Sorted (f : Nat → Nat) (n : Nat) : Prop := ∀ i j, i ≤ j → j < n → f i ≤ f j

end Go.Proofs.Qxb6604549a
