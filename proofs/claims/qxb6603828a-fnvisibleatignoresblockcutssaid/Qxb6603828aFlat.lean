/-
  PLAIN: the rows laid end to end.
-/
import Derived.Test.Qxb6603828aBuild
namespace Go.Proofs.Qxb6603828a

/-- The rows' elements end to end. -/
def flatE (E : Nat → Nat → El) (L : Nat → Nat) : Nat → Nat → El
  | 0, _ => ⟨0, 0, 0, false⟩
  | n + 1, i => if i < sumN L n then flatE E L n i else E n (i - sumN L n)

theorem flatE_at (E : Nat → Nat → El) (L : Nat → Nat) {n k j : Nat} (hk : k < n) (hj : j < L k) : flatE E L n (sumN L k + j) = E k j := by
  induction n with
  | zero => omega
  | succ n ih =>
    by_cases e : k = n
    · subst e
      show (if sumN L k + j < sumN L k then _ else E k (sumN L k + j - sumN L k)) = _
      rw [if_neg (by omega)]
      congr 1; omega
    · have h1 := sumN_mono L (show k + 1 ≤ n by omega)
      have h2 : sumN L (k + 1) = sumN L k + L k := rfl
      show (if sumN L k + j < sumN L n then flatE E L n (sumN L k + j) else _) = _
      rw [if_pos (by omega)]
      exact ih (by omega)

/-- Counting along the rows laid end to end. -/
theorem flat_cnt (E : Nat → Nat → El) (L : Nat → Nat) {n k : Nat} (hk : k < n) (j : Nat) (hj : j ≤ L k) (hb : cntR (fun i => (flatE E L n i).r) (sumN L k) = before (RR E) L k) :
    cntR (fun i => (flatE E L n i).r) (sumN L k + j) = before (RR E) L k + cntR (RR E k) j := by
  induction j with
  | zero => exact hb
  | succ j ih =>
    have h1 := ih (by omega)
    have h2 := flatE_at E L hk (show j < L k by omega)
    show cntR _ (sumN L k + j) + (if (flatE E L n (sumN L k + j)).r then 0 else 1) = before (RR E) L k + (cntR (RR E k) j + (if (E k j).r then 0 else 1))
    rw [h1, h2]
    omega

theorem flat_before (E : Nat → Nat → El) (L : Nat → Nat) {n : Nat} (k : Nat) (hk : k ≤ n) : cntR (fun i => (flatE E L n i).r) (sumN L k) = before (RR E) L k := by
  induction k with
  | zero => rfl
  | succ k ih =>
    have := flat_cnt E L (show k < n by omega) (L k) (Nat.le_refl _) (ih (by omega))
    exact this

/-- THE SAME PLACE in the one block. -/
theorem flat_isAt {E : Nat → Nat → El} {L : Nat → Nat} {n p b i : Nat} (h : IsAt (RR E) L n p b i) : IsAt (RR (fun _ => flatE E L n)) (fun _ => sumN L n) 1 p 0 (sumN L b + i) := by
  obtain ⟨h1, h2, h3, h4⟩ := h
  have hm := sumN_mono L (show b + 1 ≤ n by omega)
  have hs : sumN L (b + 1) = sumN L b + L b := rfl
  refine ⟨by omega, show sumN L b + i < sumN L n by omega, ?_, ?_⟩
  · show (flatE E L n (sumN L b + i)).r = false
    rw [flatE_at E L h1 h2]
    exact h3
  · show 0 + cntR (fun i => (flatE E L n i).r) (sumN L b + i) = p
    rw [flat_cnt E L h1 i (by omega) (flat_before E L b (by omega)), h4]
    omega

end Go.Proofs.Qxb6603828a
