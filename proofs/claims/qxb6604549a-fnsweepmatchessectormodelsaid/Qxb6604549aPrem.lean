import Derived.Test.Qxb6604549aZz
namespace Go.Proofs.Qxb6604549a
open Go.RowKit
set_option linter.unusedVariables false
set_option linter.unusedSimpArgs false

/-- Where span j of answer i begins. -/
def st (E : Nat → Nat → Sp) (i j : Nat) : Nat := sumN (fun j => (E i j).c) j
theorem st_succ (E : Nat → Nat → Sp) (i j : Nat) : st E i (j + 1) = st E i j + (E i j).c := rfl

def Prem (n : Nat) (L : Nat → Nat) (E : Nat → Nat → Sp) (cnt : Nat) : Prop := ∀ i, i < n → (∀ j, j < L i → 0 < (E i j).c) ∧ st E i (L i) ≤ cnt
def PremRet (n : Nat) (L : Nat → Nat) (E : Nat → Nat → Sp) (cnt : Nat) (e : Ending) : Prop := ∃ b, e = .returned (.bool b) ∧ (b = true → Prem n L E cnt)
theorem premNo (n : Nat) (L : Nat → Nat) (E : Nat → Nat → Sp) (cnt : Nat) : PremRet n L E cnt (.returned (.bool false)) := ⟨false, rfl, fun h => by cases h⟩

set_option maxHeartbeats 1000000 in
theorem prem13 {w : World} {ao : Option Addr} {n nc gb go : Nat} {A : Nat → Option Addr} {L C RB RO : Nat → Nat} {E : Nat → Nat → Sp} (h : Arg w ao n gb go A L C RB RO E) (hn : n ≤ 256) (hL : ∀ k, k < n → L k ≤ 1048576) (cnt : Nat) (hcnt : cnt ≤ 18446744073709551615) (hd : Int) :
    Calls Try.prog 13 #[.int .u64 cnt, .slice ao n nc, .int .i64 hd] w fun e w' => PremRet n L E cnt e ∧ w' = w := by
  go_enter Try.func13, Try.ntmps13
  go_wp2
  go_loop [7, 8] (fun s i => ∃ (k t : Nat), k ≤ n ∧ i = .int .i64 k ∧ s = .int .i64 t ∧ t ≤ k ∧ Hid (Prem k L E cnt)) (fun _ i => n - (intOf i).toNat)
  case atStart => exact ⟨0, 0, Nat.zero_le _, rfl, rfl, Nat.le_refl _, fun i hi => absurd hi (Nat.not_lt_zero _)⟩
  case round =>
    obtain ⟨k, t, hk, rfl, rfl, ht1, ht⟩ := hrel
    by_cases hkn : k < n
    · obtain rfl := h.ga (by omega)
      have hrow := h.row k hkn
      have hl := hL k hkn
      go_wp2_with fail
      all_goals
        go_loop [9, 10] (fun s y => ∃ (j r : Nat), j ≤ L k ∧ y = .int .i64 j ∧ s = .int .u64 r ∧ r ≤ 18446744073709551615 ∧ Hid (r + st E k j = cnt ∧ ∀ i, i < j → 0 < (E k i).c)) (fun _ y => L k - (intOf y).toNat)
        case atStart => exact ⟨0, cnt, Nat.zero_le _, rfl, rfl, hcnt, rfl, fun i hi => absurd hi (Nat.not_lt_zero _)⟩
        case round =>
          obtain ⟨j, r, hj, rfl, rfl, hr1, hr⟩ := hrel
          by_cases hjl : j < L k
          · have hrow' := hrow
            rw [h.lead k hkn j hjl] at hrow'
            have hc0 := h.c0 k hkn j hjl
            have hcc := h.cc k hkn j hjl
            clear hrow
            obtain ⟨c, hc⟩ : ∃ c, c = (E k j).c := ⟨_, rfl⟩
            rw [← hc] at hc0 hcc
            have Hc : Hid (c = (E k j).c) := hc
            clear hc
            by_cases b1 : c = 0
            · have d1 : ((c : Int) == 0) = true := by rw [beq_iff_eq]; omega
              go_wp2
              go_ret
              exact ⟨premNo _ _ _ _, rfl⟩
            · have d1 : ((c : Int) == 0) = false := by rw [beq_eq_false_iff_ne]; omega
              by_cases b2 : r < c
              · have d2 : decide ((r : Int) < (c : Int)) = true := by simp; omega
                go_wp2
                go_ret
                exact ⟨premNo _ _ _ _, rfl⟩
              · have d2 : decide ((r : Int) < (c : Int)) = false := by simp; omega
                go_wp2
                go_round
                case rel =>
                  refine ⟨j + 1, r - c, by omega, by go_num, by go_num, by omega, ?_, fun i hi => ?_⟩
                  · rw [st_succ, ← Hc.out]; have := hr.out.1; omega
                  · by_cases e : i = j
                    · subst e; rw [← Hc.out]; omega
                    · exact hr.out.2 i (by omega)
                case measure => simp [intOf]; omega
          · obtain rfl : L k = j := by omega
            go_wp2
            go_round
            case rel =>
              first
                | exact ⟨k + 1, t, by omega, by go_num, by go_num, by omega, fun i hi => by by_cases e : i = k; (subst e; exact ⟨hr.out.2, by have := hr.out.1; omega⟩); exact ht.out i (by omega)⟩
                | exact ⟨k + 1, t + 1, by omega, by go_num, by go_num, by omega, fun i hi => by by_cases e : i = k; (subst e; exact ⟨hr.out.2, by have := hr.out.1; omega⟩); exact ht.out i (by omega)⟩
            case measure => simp [intOf]; omega
    · obtain rfl : n = k := by omega
      by_cases b3 : hd = t
      · have d3 : (hd == (t : Int)) = true := by rw [beq_iff_eq]; exact b3
        have HB : Hid (hd = t) := b3
        clear b3
        go_wp2
        go_ret
        exact ⟨⟨true, rfl, fun _ => ht.out⟩, rfl⟩
      · have d3 : (hd == (t : Int)) = false := by rw [beq_eq_false_iff_ne]; exact b3
        go_wp2
        go_ret
        exact ⟨premNo _ _ _ _, rfl⟩
end Go.Proofs.Qxb6604549a
