/-
  PLAIN: the sweep goes through the nodes that answered anything; those that did not count for nothing.
-/
import Derived.Test.Qxb6604549aSpec
namespace Go.Proofs.Qxb6604549a
set_option linter.unusedVariables false
set_option linter.unusedSimpArgs false

/-- The nodes below k with an answer that is not empty. -/
def nsTo (L : Nat → Nat) : Nat → List Nat
  | 0 => []
  | k + 1 => if 0 < L k then nsTo L k ++ [k] else nsTo L k

theorem nsTo_len (L : Nat → Nat) (k : Nat) : (nsTo L k).length ≤ k := by
  induction k with
  | zero => exact Nat.le_refl _
  | succ k ih =>
    show (if 0 < L k then nsTo L k ++ [k] else nsTo L k).length ≤ _
    split
    · simp; omega
    · omega

theorem nsTo_mem {L : Nat → Nat} {k i : Nat} (h : i ∈ nsTo L k) : i < k ∧ 0 < L i := by
  induction k with
  | zero => cases h
  | succ k ih =>
    have h' : i ∈ (if 0 < L k then nsTo L k ++ [k] else nsTo L k) := h
    by_cases hk : 0 < L k
    · rw [if_pos hk] at h'
      rcases List.mem_append.1 h' with q | q
      · have := ih q; exact ⟨by omega, this.2⟩
      · have : i = k := by simpa using q
        subst this
        exact ⟨by omega, hk⟩
    · rw [if_neg hk] at h'
      have := ih h'
      exact ⟨by omega, this.2⟩

def reachL (E : Nat → Nat → Sp) (L : Nat → Nat) (p : Nat) : List Nat → Nat → Nat
  | [], a => a
  | i :: l, a => reachL E L p l (a + (if p < ext E L i then 1 else 0))
def leastL (E : Nat → Nat → Sp) (L : Nat → Nat) (p : Nat) : List Nat → Nat → Nat
  | [], a => a
  | i :: l, a => leastL E L p l (if p < ext E L i then min a (lft E L i p) else a)
def holesL (E : Nat → Nat → Sp) (L : Nat → Nat) (p : Nat) : List Nat → List (Int × Int) → List (Int × Int)
  | [], a => a
  | i :: l, a => holesL E L p l (a ++ (if p < ext E L i ∧ (E i (idx E L i p)).h = true then [((E i (idx E L i p)).t, (E i (idx E L i p)).k)] else []))

section
variable (E : Nat → Nat → Sp) (L : Nat → Nat) (p : Nat)

theorem reachL_snoc (i : Nat) : ∀ (l : List Nat) (a : Nat), reachL E L p (l ++ [i]) a = reachL E L p l a + (if p < ext E L i then 1 else 0)
  | [], a => rfl
  | j :: l, a => reachL_snoc i l _
theorem leastL_snoc (i : Nat) : ∀ (l : List Nat) (a : Nat), leastL E L p (l ++ [i]) a = if p < ext E L i then min (leastL E L p l a) (lft E L i p) else leastL E L p l a
  | [], a => rfl
  | j :: l, a => leastL_snoc i l _
theorem holesL_snoc (i : Nat) : ∀ (l : List Nat) (a : List (Int × Int)), holesL E L p (l ++ [i]) a = holesL E L p l a ++ (if p < ext E L i ∧ (E i (idx E L i p)).h = true then [((E i (idx E L i p)).t, (E i (idx E L i p)).k)] else [])
  | [], a => rfl
  | j :: l, a => holesL_snoc i l _

theorem ext_zero {i : Nat} (h : ¬ 0 < L i) : ext E L i = 0 := by
  have : L i = 0 := by omega
  unfold ext; rw [this]; rfl

theorem reachL_ns (n : Nat) : reachL E L p (nsTo L n) 0 = reach E L p n := by
  induction n with
  | zero => rfl
  | succ n ih =>
    show reachL E L p (if 0 < L n then nsTo L n ++ [n] else nsTo L n) 0 = reach E L p n + _
    by_cases h : 0 < L n
    · rw [if_pos h, reachL_snoc, ih]
    · rw [if_neg h, ih, ext_zero E L h, if_neg (Nat.not_lt_zero _)]
      rfl
theorem leastL_ns (n : Nat) : leastL E L p (nsTo L n) 18446744073709551615 = least E L p n := by
  induction n with
  | zero => rfl
  | succ n ih =>
    show leastL E L p (if 0 < L n then nsTo L n ++ [n] else nsTo L n) 18446744073709551615 = if p < ext E L n then min (least E L p n) (lft E L n p) else least E L p n
    by_cases h : 0 < L n
    · rw [if_pos h, leastL_snoc, ih]
    · rw [if_neg h, ih, ext_zero E L h, if_neg (Nat.not_lt_zero _)]
theorem holesL_ns (n : Nat) : holesL E L p (nsTo L n) [] = holes E L p n := by
  induction n with
  | zero => rfl
  | succ n ih =>
    show holesL E L p (if 0 < L n then nsTo L n ++ [n] else nsTo L n) [] = holes E L p n ++ _
    by_cases h : 0 < L n
    · rw [if_pos h, holesL_snoc, ih]
    · rw [if_neg h, ih, ext_zero E L h, if_neg (fun q => Nat.not_lt_zero _ q.1), List.append_nil]
end

theorem take_next (l : List Nat) {r : Nat} (h : r < l.length) : l.take (r + 1) = l.take r ++ [l.getD r 0] := by
  rw [List.take_succ_eq_append_getElem h]
  simp [List.getD, h]

/-- The least rest is a rest, and none is less. -/
theorem least_le (E : Nat → Nat → Sp) (L : Nat → Nat) (p : Nat) {n i : Nat} (hi : i < n) (h : p < ext E L i) : least E L p n ≤ lft E L i p := by
  induction n with
  | zero => omega
  | succ n ih =>
    show (if p < ext E L n then min (least E L p n) (lft E L n p) else least E L p n) ≤ _
    by_cases e : i = n
    · subst e; rw [if_pos h]; exact Nat.min_le_right _ _
    · have := ih (by omega)
      split
      · exact Nat.le_trans (Nat.min_le_left _ _) this
      · exact this

theorem reach_le (E : Nat → Nat → Sp) (L : Nat → Nat) (p n : Nat) : reach E L p n ≤ n := by
  induction n with
  | zero => exact Nat.le_refl _
  | succ n ih =>
    show reach E L p n + _ ≤ _
    split <;> omega

/-- Where some answer reaches, the least rest is one of the rests. -/
theorem least_is {E : Nat → Nat → Sp} {L : Nat → Nat} {cn : Nat} (hcn : cn ≤ 18446744073709551615) (p : Nat) {n : Nat} (hp : Prem n L E cn) (h : 0 < reach E L p n) :
    ∃ i, i < n ∧ p < ext E L i ∧ least E L p n = lft E L i p := by
  induction n with
  | zero => exact absurd h (Nat.lt_irrefl _)
  | succ n ih =>
    have hpn : Prem n L E cn := fun i hi => hp i (by omega)
    have hr : reach E L p (n + 1) = reach E L p n + (if p < ext E L n then 1 else 0) := rfl
    have hl : least E L p (n + 1) = if p < ext E L n then min (least E L p n) (lft E L n p) else least E L p n := rfl
    by_cases hx : p < ext E L n
    · rw [if_pos hx] at hl
      rcases Nat.le_total (lft E L n p) (least E L p n) with q | q
      · exact ⟨n, by omega, hx, by rw [hl]; exact Nat.min_eq_right q⟩
      · rcases Nat.eq_zero_or_pos (reach E L p n) with z | z
        · refine ⟨n, by omega, hx, ?_⟩
          have hbig : least E L p n = 18446744073709551615 := by
            have : ∀ m, reach E L p m = 0 → least E L p m = 18446744073709551615 := by
              intro m
              induction m with
              | zero => intro _; rfl
              | succ m ihm =>
                intro hm
                have hm' : reach E L p m + (if p < ext E L m then 1 else 0) = 0 := hm
                have hnx : ¬ p < ext E L m := fun q => by rw [if_pos q] at hm'; omega
                show (if p < ext E L m then min (least E L p m) (lft E L m p) else least E L p m) = _
                rw [if_neg hnx]
                exact ihm (by omega)
            exact this n z
          have hle := lft_le (E := E) (L := L) (i := n) (hp n (by omega)).1 p
          have hc := (hp n (by omega)).2
          rw [hl, hbig]
          unfold ext at hle
          omega
        · obtain ⟨i, h1, h2, h3⟩ := ih hpn z
          exact ⟨i, by omega, h2, by rw [hl, Nat.min_eq_left q]; exact h3⟩
    · rw [if_neg hx] at hl hr
      obtain ⟨i, h1, h2, h3⟩ := ih hpn (by omega)
      exact ⟨i, by omega, h2, by rw [hl]; exact h3⟩

/-- How many spans are done with. -/
def dn (E : Nat → Nat → Sp) (L : Nat → Nat) (n p : Nat) : Nat := sumN (fun i => idx E L i p) n

theorem sumN_le {f g : Nat → Nat} (n : Nat) (h : ∀ i, i < n → f i ≤ g i) : sumN f n ≤ sumN g n := by
  induction n with
  | zero => exact Nat.le_refl _
  | succ n ih =>
    have h1 := ih (fun i hi => h i (by omega))
    have h2 := h n (by omega)
    rw [sumN_succ, sumN_succ]; omega

theorem sumN_lt {f g : Nat → Nat} (n : Nat) (h : ∀ i, i < n → f i ≤ g i) {k : Nat} (hk : k < n) (hlt : f k < g k) : sumN f n < sumN g n := by
  induction n with
  | zero => omega
  | succ n ih =>
    rw [sumN_succ, sumN_succ]
    by_cases e : k = n
    · subst e
      have := sumN_le k (fun i hi => h i (by omega))
      omega
    · have h1 := ih (fun i hi => h i (by omega)) (by omega)
      have h2 := h n (by omega)
      omega

theorem idx_mono {E : Nat → Nat → Sp} {L : Nat → Nat} {i : Nat} (hp : ∀ j, j < L i → 0 < (E i j).c) {a b : Nat} (h : a ≤ b) : idx E L i a ≤ idx E L i b := by
  by_cases hb : b < ext E L i
  · have h1 := idx_lt hp hb
    have h2 := idx_end hp h1
    have h3 := idx_start hp a
    rcases Nat.lt_or_ge (idx E L i b) (idx E L i a) with q | q
    · have := st_mono E i (show idx E L i b + 1 ≤ idx E L i a by omega)
      omega
    · exact q
  · rw [idx_ge hp (show ext E L i ≤ b by omega)]
    exact idx_le a

theorem dn_step {E : Nat → Nat → Sp} {L : Nat → Nat} {n cn p : Nat} (hcn : cn ≤ 18446744073709551615) (hp : Prem n L E cn) (h : 0 < reach E L p n) : dn E L n p < dn E L n (p + least E L p n) := by
  obtain ⟨i, h1, h2, h3⟩ := least_is hcn p hp h
  refine sumN_lt n (fun j hj => idx_mono (hp j hj).1 (by omega)) h1 ?_
  show idx E L i p < idx E L i (p + least E L p n)
  rw [h3, (step_out (hp i h1).1 h2).1]
  omega

theorem dn_le (E : Nat → Nat → Sp) (L : Nat → Nat) (n p : Nat) : dn E L n p ≤ sumN L n := sumN_le n (fun i _ => idx_le p)

theorem chain_len {E : Nat → Nat → Sp} {L : Nat → Nat} {n cn : Nat} (hcn : cn ≤ 18446744073709551615) (hp : Prem n L E cn) : ∀ (l : List Stretch) {p q : Nat}, chain E L n l p q → l.length + dn E L n p ≤ dn E L n q
  | [], p, q, h => by
    have e : p = q := h
    subst e
    simp
  | s :: l, p, q, h => by
    have h1 := chain_len hcn hp l h.2.2
    have h2 := dn_step hcn hp (show 0 < reach E L p n by have := h.1; omega)
    simp only [List.length_cons]
    omega

theorem chain_short {E : Nat → Nat → Sp} {L : Nat → Nat} {n cn : Nat} (hcn : cn ≤ 18446744073709551615) (hp : Prem n L E cn) {l : List Stretch} {p q : Nat} (h : chain E L n l p q) : l.length ≤ sumN L n := by
  have h1 := chain_len hcn hp l h
  have h2 := dn_le E L n q
  omega

/-- A step stays within what is reached. -/
theorem step_le {E : Nat → Nat → Sp} {L : Nat → Nat} {n cn p : Nat} (hcn : cn ≤ 18446744073709551615) (hp : Prem n L E cn) (h : 0 < reach E L p n) : 0 < least E L p n ∧ p + least E L p n ≤ cn := by
  obtain ⟨i, h1, h2, h3⟩ := least_is hcn p hp h
  rw [h3]
  refine ⟨lft_pos (hp i h1).1 h2, ?_⟩
  have a := idx_lt (hp i h1).1 h2
  have b := st_mono E i (show idx E L i p + 1 ≤ L i by omega)
  have c := (hp i h1).2
  have d := idx_end (hp i h1).1 a
  unfold lft
  rw [if_pos h2]
  omega

end Go.Proofs.Qxb6604549a
