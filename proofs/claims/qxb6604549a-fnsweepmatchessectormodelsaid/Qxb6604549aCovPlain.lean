/-
  PLAIN: what the chain of stretches covers.
-/
import Derived.Test.Qxb6604549aNs
namespace Go.Proofs.Qxb6604549a
set_option linter.unusedVariables false
set_option linter.unusedSimpArgs false

theorem reach_cnt (E : Nat → Nat → Sp) (L : Nat → Nat) (p n : Nat) : reach E L p n = cntP (fun v => decide (p < v)) (ext E L) n := by
  induction n with
  | zero => rfl
  | succ n ih =>
    show reach E L p n + _ = cntP _ _ n + _
    rw [ih]
    by_cases h : p < ext E L n
    · simp [h]
    · simp [h]

theorem cntP_few (p : Nat → Bool) (f : Nat → Nat) (n k : Nat) (hk : k < n) (h : ∀ i, i ≤ k → p (f i) = false) : cntP p f n ≤ n - (k + 1) := by
  induction n with
  | zero => omega
  | succ n ih =>
    rw [cntP_succ]
    by_cases e : k = n
    · subst e
      have hz : ∀ m, m ≤ k + 1 → cntP p f m = 0 := by
        intro m
        induction m with
        | zero => intro _; rfl
        | succ m ihm => intro hm; rw [cntP_succ, ihm (by omega), h m (by omega)]; rfl
      rw [hz k (by omega), h k (Nat.le_refl _)]
      simp
    · have := ih (by omega)
      split <;> omega

theorem cntP_many (p : Nat → Bool) (f : Nat → Nat) (n k : Nat) (hk : k ≤ n) (h : ∀ i, k ≤ i → i < n → p (f i) = true) : n - k ≤ cntP p f n := by
  induction n with
  | zero => omega
  | succ n ih =>
    rw [cntP_succ]
    by_cases e : k = n + 1
    · omega
    · have := ih (by omega) (fun i h1 h2 => h i h1 (by omega))
      rw [h n (by omega) (by omega)]
      simp
      omega

theorem reach_after {E : Nat → Nat → Sp} {L : Nat → Nat} {n cn p x : Nat} (hp : Prem n L E cn) (h1 : p ≤ x) (h2 : x < p + least E L p n) : reach E L p n ≤ reach E L x n := by
  have key : ∀ i, i < n → p < ext E L i → x < ext E L i := fun i hi hx => by
    have a := least_le E L p hi hx
    have b := idx_lt (hp i hi).1 hx
    have c := st_mono E i (show idx E L i p + 1 ≤ L i by omega)
    have d := idx_end (hp i hi).1 b
    unfold lft at a
    rw [if_pos hx] at a
    show x < st E i (L i)
    omega
  have : ∀ m, m ≤ n → reach E L p m ≤ reach E L x m := by
    intro m
    induction m with
    | zero => intro _; exact Nat.le_refl _
    | succ m ih =>
      intro hm
      have q := ih (by omega)
      show reach E L p m + _ ≤ reach E L x m + _
      by_cases hx : p < ext E L m
      · rw [if_pos hx, if_pos (key m (by omega) hx)]; omega
      · rw [if_neg hx]; omega
  exact this n (Nat.le_refl _)

theorem chain_le {E : Nat → Nat → Sp} {L : Nat → Nat} {n : Nat} : ∀ (l : List Stretch) {p q : Nat}, chain E L n l p q → p ≤ q
  | [], p, q, h => by have e : p = q := h; omega
  | s :: l, p, q, h => by have := chain_le l h.2.2; omega

theorem chain_reach {E : Nat → Nat → Sp} {L : Nat → Nat} {n cn : Nat} (hp : Prem n L E cn) : ∀ (l : List Stretch) {p q : Nat}, chain E L n l p q → ∀ x, p ≤ x → x < q → n / 2 < reach E L x n
  | [], p, q, h, x, h1, h2 => by have e : p = q := h; omega
  | s :: l, p, q, h, x, h1, h2 => by
    by_cases hx : x < p + least E L p n
    · have := reach_after hp h1 hx
      have := h.1
      omega
    · exact chain_reach hp l h.2.2 x (by omega) h2

/-- The chain ends at the quorum's extent. -/
theorem cover_eq {E : Nat → Nat → Sp} {L : Nat → Nat} {n cn F : Nat} (hp : Prem n L E cn) {l : List Stretch} (hch : chain E L n l 0 F) (hF : reach E L F n ≤ n / 2) {f : Nat → Nat} (hs : Sorted f n) (hc : ∀ p, cntP p f n = cntP p (ext E L) n) (hn : 0 < n) :
    F = f (n - n / 2 - 1) := by
  have a : reach E L (f (n - n / 2 - 1)) n ≤ n / 2 := by
    rw [reach_cnt, ← hc]
    have := cntP_few (fun v => decide (f (n - n / 2 - 1) < v)) f n (n - n / 2 - 1) (by omega) (fun i hi => by simp; exact hs i _ hi (by omega))
    omega
  have b : ∀ x, x < f (n - n / 2 - 1) → n / 2 < reach E L x n := fun x hx => by
    rw [reach_cnt, ← hc]
    have := cntP_many (fun v => decide (x < v)) f n (n - n / 2 - 1) (by omega) (fun i h1 h2 => by simp; have := hs _ i h1 h2; omega)
    omega
  rcases Nat.lt_trichotomy F (f (n - n / 2 - 1)) with q | q | q
  · have := b F q; omega
  · exact q
  · have := chain_reach hp l hch (f (n - n / 2 - 1)) (Nat.zero_le _) q; omega

theorem cover_zero {E : Nat → Nat → Sp} {L : Nat → Nat} {F : Nat} {l : List Stretch} (hch : chain E L 0 l 0 F) : F = 0 ∧ l = [] := by
  cases l with
  | nil => have e : 0 = F := hch; exact ⟨e.symm, rfl⟩
  | cons s l => have := hch.1; simp [reach] at this

theorem cnt_le (x : Int × Int) : ∀ l : List (Int × Int), cnt x l ≤ l.length
  | [] => Nat.le_refl _
  | y :: l => by
    have := cnt_le x l
    show (if y = x then 1 else 0) + cnt x l ≤ l.length + 1
    split <;> omega

theorem pick_inv (all : List (Int × Int)) : ∀ (l : List (Int × Int)) (b : (Int × Int) × Nat), b.2 ≤ all.length → (b.2 = 0 → b.1 = (0, 0)) → (pick all b l).2 ≤ all.length ∧ ((pick all b l).2 = 0 → (pick all b l).1 = (0, 0))
  | [], b, h1, h2 => ⟨h1, h2⟩
  | x :: l, b, h1, h2 => by
    refine pick_inv all l _ ?_ ?_
    · by_cases h : b.2 < cnt x all
      · rw [if_pos h]; exact cnt_le x all
      · rw [if_neg h]; exact h1
    · by_cases h : b.2 < cnt x all
      · rw [if_pos h]; intro q; have q' : cnt x all = 0 := q; omega
      · rw [if_neg h]; exact h2

theorem holes_len (E : Nat → Nat → Sp) (L : Nat → Nat) (p n : Nat) : (holes E L p n).length ≤ n := by
  induction n with
  | zero => exact Nat.le_refl _
  | succ n ih =>
    show (holes E L p n ++ _).length ≤ _
    rw [List.length_append]
    split <;> simp <;> omega

/-- What the law asks of a stretch. -/
theorem stretch_ok (E : Nat → Nat → Sp) (L : Nat → Nat) (n p : Nat) : (stretchAt E L n p).v ≤ n ∧ ((stretchAt E L n p).v = 0 → (stretchAt E L n p).t = 0 ∧ (stretchAt E L n p).k = 0) := by
  have h := pick_inv (holes E L p n) (holes E L p n) ((0, 0), 0) (Nat.zero_le _) (fun _ => rfl)
  have hl := holes_len E L p n
  refine ⟨Nat.le_trans h.1 hl, fun hz => ?_⟩
  have := h.2 hz
  exact ⟨congrArg Prod.fst this, congrArg Prod.snd this⟩

end Go.Proofs.Qxb6604549a
