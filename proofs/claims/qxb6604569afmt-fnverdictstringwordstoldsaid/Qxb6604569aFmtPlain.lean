/-
  PLAIN: decimal numerals.
-/
import Derived.Test.Qxb6604569aFmtStr
namespace Go.Proofs.Qxb6604569aFmt
open Go.Lib

/-- What a row of digits says. -/
def dval (l : List UInt8) : Nat := l.foldl (fun u c => u * 10 + (c.toNat - 48)) 0

theorem dval_snoc (l : List UInt8) (c : UInt8) : dval (l ++ [c]) = dval l * 10 + (c.toNat - 48) := by simp [dval]

theorem fold_ge (m : List UInt8) : ∀ u : Nat, u ≤ m.foldl (fun u c => u * 10 + (c.toNat - 48)) u := by
  induction m with
  | nil => intro u; exact Nat.le_refl _
  | cons c m ih =>
    intro u
    have := ih (u * 10 + (c.toNat - 48))
    simp only [List.foldl_cons]
    omega

theorem dval_take_le (l : List UInt8) (i : Nat) : dval (l.take i) ≤ dval l := by
  have h : dval l = (l.drop i).foldl (fun u c => u * 10 + (c.toNat - 48)) (dval (l.take i)) := by
    have : l = l.take i ++ l.drop i := (List.take_append_drop i l).symm
    conv => lhs; rw [this]
    simp only [dval, List.foldl_append]
  rw [h]
  exact fold_ge _ _

theorem dval_next {l : List UInt8} {i : Nat} {c : UInt8} (h : l[i]? = some c) : dval (l.take (i + 1)) = dval (l.take i) * 10 + (c.toNat - 48) := by
  rw [List.take_add_one, h]
  exact dval_snoc _ _

theorem dec_small {u : Nat} (h : u < 10) : decDigits u = [UInt8.ofNat (48 + u)] := by rw [decDigits, dif_pos h]
theorem dec_big {u : Nat} (h : ¬ u < 10) : decDigits u = decDigits (u / 10) ++ [UInt8.ofNat (48 + u % 10)] := by rw [decDigits, dif_neg h]

theorem digit_nat {r : Nat} (h : r < 10) : (UInt8.ofNat (48 + r)).toNat = 48 + r := by
  simp; omega

theorem dval_dec (u : Nat) : dval (decDigits u) = u := by
  induction u using Nat.strongRecOn with
  | _ u ih =>
    by_cases h : u < 10
    · rw [dec_small h]
      have := digit_nat h
      simp [dval] at this ⊢
      omega
    · rw [dec_big h, dval_snoc, ih (u / 10) (by omega), digit_nat (by omega)]
      omega

theorem dec_digit (u : Nat) : ∀ c ∈ decDigits u, 48 ≤ c.toNat ∧ c.toNat ≤ 57 := by
  induction u using Nat.strongRecOn with
  | _ u ih =>
    intro c hc
    by_cases h : u < 10
    · rw [dec_small h] at hc
      simp only [List.mem_singleton] at hc
      subst hc
      rw [digit_nat h]; omega
    · rw [dec_big h, List.mem_append] at hc
      rcases hc with hc | hc
      · exact ih (u / 10) (by omega) c hc
      · simp only [List.mem_singleton] at hc
        subst hc
        rw [digit_nat (by omega)]; omega

theorem dec_head {u : Nat} (hu : 0 < u) : ∃ c l, decDigits u = c :: l ∧ 49 ≤ c.toNat ∧ c.toNat ≤ 57 := by
  induction u using Nat.strongRecOn with
  | _ u ih =>
    by_cases h : u < 10
    · exact ⟨_, _, dec_small h, by rw [digit_nat h]; omega, by rw [digit_nat h]; omega⟩
    · obtain ⟨c, l, e, h1, h2⟩ := ih (u / 10) (by omega) (by omega)
      exact ⟨c, l ++ [UInt8.ofNat (48 + u % 10)], by rw [dec_big h, e]; rfl, h1, h2⟩

theorem nDigits_le {k : Nat} : ∀ {u : Nat}, u < 10 ^ (k + 1) → nDigits u ≤ k + 1 := by
  induction k with
  | zero => intro u h; rw [nDigits_small (by simpa using h)]; omega
  | succ k ih =>
    intro u h
    by_cases q : u < 10
    · rw [nDigits_small q]; omega
    · rw [nDigits_big q]
      have : u / 10 < 10 ^ (k + 1) := by rw [Nat.pow_succ] at h; omega
      have := ih this
      omega

theorem dec_len {u : Nat} (h : u ≤ 9223372036854775808) : (decDigits u).length ≤ 19 := by
  rw [decDigits_length]
  exact nDigits_le (k := 18) (by omega)

theorem dec_inj {a b : Nat} (h : decDigits a = decDigits b) : a = b := by
  rw [← dval_dec a, ← dval_dec b, h]
end Go.Proofs.Qxb6604569aFmt
