import Derived.Test.Qxb6604549aMem
namespace Go.Proofs.Qxb6604549a
open Go.RowKit
set_option linter.unusedVariables false

def ZzRet (n : Nat) (L : Nat → Nat) (e : Ending) : Prop := ∃ b, e = .returned (.bool b) ∧ (b = true → ∀ k, k < n → L k ≤ 1048576)
theorem zzNo (n : Nat) (L : Nat → Nat) : ZzRet n L (.returned (.bool false)) := ⟨false, rfl, fun h => by cases h⟩

set_option maxHeartbeats 400000 in
theorem zz11 {w : World} {ao : Option Addr} {n nc gb go : Nat} {A : Nat → Option Addr} {L C RB RO : Nat → Nat} {E : Nat → Nat → Sp} (h : Arg w ao n gb go A L C RB RO E) (x y : Value) :
    Calls Try.prog 11 #[x, .slice ao n nc, y] w fun e w' => ZzRet n L e ∧ w' = w := by
  have hn := h.nc
  go_enter Try.func11, Try.ntmps11
  go_wp2
  all_goals first | (go_ret; exact ⟨zzNo _ _, rfl⟩) | skip
  go_loop [7, 8] (fun s i => ∃ (k : Nat) (t : Int), k ≤ n ∧ i = .int .i64 k ∧ s = .int .i64 t ∧ 0 ≤ t ∧ t ≤ 1048576 ∧ Hid (∀ i, i < k → L i ≤ 1048576)) (fun _ i => n - (intOf i).toNat)
  case atStart => exact ⟨0, n, Nat.zero_le _, rfl, rfl, by omega, by omega, fun i hi => absurd hi (Nat.not_lt_zero _)⟩
  case round =>
    obtain ⟨k, t, hk, rfl, rfl, ht0, ht1, hall⟩ := hrel
    by_cases hkn : k < n
    · obtain rfl := h.ga (by omega)
      have hrow := h.row k hkn
      have hl := h.lc k hkn
      go_wp2
      all_goals first
        | (go_ret; exact ⟨zzNo _ _, rfl⟩)
        | (go_round
           case rel => exact ⟨k + 1, _, by omega, by go_num, rfl, by omega, by omega, fun i hi => by by_cases e : i = k; (subst e; omega); exact hall.out i (by omega)⟩
           case measure => simp [intOf]; omega)
    · go_wp2
      go_ret
      exact ⟨⟨true, rfl, fun _ i hi => hall.out i (by omega)⟩, rfl⟩

set_option maxHeartbeats 400000 in
theorem zz17 {w : World} {ao : Option Addr} {n nc gb go : Nat} {A : Nat → Option Addr} {L C RB RO : Nat → Nat} {E : Nat → Nat → Sp} (h : Arg w ao n gb go A L C RB RO E) (x y : Value) :
    Calls Try.prog 17 #[x, .slice ao n nc, y] w fun e w' => ZzRet n L e ∧ w' = w := by
  have hn := h.nc
  go_enter Try.func17, Try.ntmps17
  go_wp2
  all_goals first | (go_ret; exact ⟨zzNo _ _, rfl⟩) | skip
  go_loop [7, 8] (fun s i => ∃ (k : Nat) (t : Int), k ≤ n ∧ i = .int .i64 k ∧ s = .int .i64 t ∧ 0 ≤ t ∧ t ≤ 1048576 ∧ Hid (∀ i, i < k → L i ≤ 1048576)) (fun _ i => n - (intOf i).toNat)
  case atStart => exact ⟨0, n, Nat.zero_le _, rfl, rfl, by omega, by omega, fun i hi => absurd hi (Nat.not_lt_zero _)⟩
  case round =>
    obtain ⟨k, t, hk, rfl, rfl, ht0, ht1, hall⟩ := hrel
    by_cases hkn : k < n
    · obtain rfl := h.ga (by omega)
      have hrow := h.row k hkn
      have hl := h.lc k hkn
      go_wp2
      all_goals first
        | (go_ret; exact ⟨zzNo _ _, rfl⟩)
        | (go_round
           case rel => exact ⟨k + 1, _, by omega, by go_num, rfl, by omega, by omega, fun i hi => by by_cases e : i = k; (subst e; omega); exact hall.out i (by omega)⟩
           case measure => simp [intOf]; omega)
    · go_wp2
      go_ret
      exact ⟨⟨true, rfl, fun _ i hi => hall.out i (by omega)⟩, rfl⟩

def TotRet (n : Nat) (L : Nat → Nat) (e : Ending) : Prop := ∃ T : Nat, e = .returned (.int .i64 T) ∧ T ≤ 9223372036854775807 ∧ (T ≤ 4096 → T = sumN L n)

set_option maxHeartbeats 400000 in
theorem spanTotal12 {w : World} {ao : Option Addr} {n nc gb go : Nat} {A : Nat → Option Addr} {L C RB RO : Nat → Nat} {E : Nat → Nat → Sp} (h : Arg w ao n gb go A L C RB RO E) (hn : n ≤ 256) (hL : ∀ k, k < n → L k ≤ 1048576) :
    Calls Try.prog 12 #[.slice ao n nc] w fun e w' => TotRet n L e ∧ w' = w := by
  go_enter Try.func12, Try.ntmps12
  go_wp2
  go_loop [3, 4] (fun s i => ∃ (k t : Nat), k ≤ n ∧ i = .int .i64 k ∧ s = .int .i64 t ∧ t ≤ 4096 ∧ Hid (t = sumN L k)) (fun _ i => n - (intOf i).toNat)
  case atStart => exact ⟨0, 0, Nat.zero_le _, rfl, rfl, by omega, rfl⟩
  case round =>
    obtain ⟨k, t, hk, rfl, rfl, ht1, ht⟩ := hrel
    by_cases hkn : k < n
    · obtain rfl := h.ga (by omega)
      have hrow := h.row k hkn
      have hl := hL k hkn
      by_cases hb : 4096 < t + L k
      · go_wp2
        go_ret
        exact ⟨⟨t + L k, by go_num, by omega, fun h => by omega⟩, rfl⟩
      · go_wp2
        go_round
        case rel => exact ⟨k + 1, t + L k, by omega, by go_num, by go_num, by omega, by show _ = _; rw [sumN_succ, ← ht.out]⟩
        case measure => simp [intOf]; omega
    · obtain rfl : n = k := by omega
      go_wp2
      go_ret
      exact ⟨⟨t, rfl, by omega, fun _ => ht.out⟩, rfl⟩
end Go.Proofs.Qxb6604549a
